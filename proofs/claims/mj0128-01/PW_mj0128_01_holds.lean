import PyProof.Rows.All
import Wide.All
import OpenK.AllK
import Wide.FinOn
import PyProof.WalkLemmas
import PyProof.CallType
import PyProof.DefStmt
import PyProof.CodeObjX
import Lean
import PySem.Challenge.RW_mj0128_01
set_option linter.all false
open PySem PySem.W PySem.W.X PyProof.Rows
namespace Mine
set_option Elab.async false
set_option maxRecDepth 100000
set_option maxHeartbeats 0
local macro_rules | `(tactic| k_head) => `(tactic| z_head)
local macro_rules | `(tactic| o_law) => `(tactic| refine holds_law (by kernel_rfl) fun said => ?_)
set_option synthInstance.maxSize 1 in
open_top hz for PySem.Challenge.rw_mj0128_01
open PySem PySem.W PySem.W.X PyProof.Rows PySem.Calls
set_option Elab.async false
set_option maxRecDepth 100000
set_option maxHeartbeats 4000000
/-- the goal, hidden -/
theorem hideG {T : Prop} (h : ∀ G : Prop, (T → G) → G) : T := h T id

noncomputable abbrev prg : Program := PySem.Challenge.rw_mj0128_01.row.prog
noncomputable abbrev PM := Addr → Option Obj
noncomputable def PM.le (P P' : PM) : Prop := ∀ a o, P a = some o → P' a = some o
theorem PM.le.refl (P : PM) : P.le P := fun _ _ e => e
theorem PM.le.trans {P P' P'' : PM} (h : P.le P') (h' : P'.le P'') : P.le P'' := fun a o e => h' a o (h a o e)
noncomputable def tabs : List Addr := [58, 72, 154]
noncomputable abbrev AA (d u : Nat) : Around := { handled := none, depth := d, frames := none, guards := none, units := u }

/-- the fixed data of one run of the law: the world, the heap that the call finds, its globals and built-ins -/
structure Bs where
  w : World
  h : Heap
  os : OsState
  mg : Str → Option Value
  mb : Str → Option Value
  k72 : Array Value

structure Ok (B : Bs) : Prop where
  X : (hz.heap_157 B.w.params).In B.h
  g : B.h.Ns mainGlobals B.mg
  b : B.h.Ns builtinsNs B.mb
  lim : B.h.NoLimit
  blt : ∀ x : Str, x ≠ "__name__" → B.mb x = bootBuiltins x
  bm : ∃ bm ob, B.mg "__builtins__" = some (.ref bm) ∧ bm ≠ builtinsNs ∧ bm ∉ tabs ∧ B.h.get? bm = some ob ∧ ob.cls = .type "module" ∧ ob.dict = some builtinsNs ∧ ob.data = .plain

noncomputable abbrev mdl (B : Bs) : Model := model prg B.w

/-- a code record that is frozen -/
noncomputable def PCode (P : PM) (a : Addr) (q : Str) : Prop := ∃ o vs t, P a = some o ∧ o.data = .fields vs ∧ vs[1]? = some (.str q t)
/-- what a code table's codes are called -/
noncomputable def qualOf (t : Addr) : Str := if t = 58 then "add_callers.<locals>.<genexpr>" else "_law_order.<locals>.<lambda>"
/-- a code table: what it names is frozen -/
noncomputable def TabOk (P : PM) (s : Shared) (t : Addr) : Prop :=
  ∃ ps, s.heap.get? t = some (tableObj ps) ∧ TriplesOk ps.toList ∧ ∀ p c', codeAmong p ps.toList = some c' → ∃ a, c' = .ref a ∧ PCode P a (qualOf t)

structure Wd (B : Bs) (P : PM) (s : Shared) : Prop where
  fz : ∀ a o, P a = some o → s.heap.get? a = some o
  bs : ∀ a o, B.h.get? a = some o → a ∉ tabs → P a = some o
  nt : ∀ a ∈ tabs, P a = none
  tb : ∀ t ∈ [58, 154], TabOk P s t
  os : s.os = B.os
  gb : AllBare s.gens
  t72 : s.heap.get? 72 = some (tableObj B.k72)
theorem Wd.tabAt {B : Bs} {P : PM} {s : Shared} (h : Wd B P s) {t : Addr} (ht : t ∈ tabs) : ∃ o, s.heap.get? t = some o := by
  simp only [tabs, List.mem_cons, List.not_mem_nil, or_false] at ht
  rcases ht with rfl | rfl | rfl
  · obtain ⟨ps, e, _⟩ := h.tb 58 (by simp); exact ⟨_, e⟩
  · exact ⟨_, h.t72⟩
  · obtain ⟨ps, e, _⟩ := h.tb 154 (by simp); exact ⟨_, e⟩

/-- what a call leaves: everything that stood stands, what is frozen grows by new things alone -/
inductive Out (B : Bs) (P : PM) (s : Shared) (φ : PM → Value → Prop) (v : Value) (s' : Shared) : Prop
  | mk (P' : _) (x1 : Wd B P' s') (x2 : P.le P') (x3 : (∀ a o, P' a = some o → P a = some o ∨ s.heap.get? a = none)) (x4 : (∀ a o, s.heap.get? a = some o → a ∉ tabs → s'.heap.get? a = some o)) (x5 : φ P' v)

noncomputable def Spec (B : Bs) (A : Around) (f : Value) (args : List Value) (P : PM) (s : Shared) (φ : PM → Value → Prop) : Prop :=
  wpAny (mdl B) A (call f args) (Out B P s φ) (fun _ _ => False) s

noncomputable abbrev Own := Addr × (Obj → Prop)

structure St (B : Bs) (P0 : PM) (s0 : Shared) (P : PM) (L : Addr) (m : Str → Option Value) (owns : List Own) (s : Shared) : Prop where
  wd : Wd B P s
  le : P0.le P
  nw : ∀ a o, P a = some o → P0 a = some o ∨ s0.heap.get? a = none
  kp : ∀ a o, s0.heap.get? a = some o → a ∉ tabs → s.heap.get? a = some o
  ns : s.heap.Ns L m
  lf : P L = none ∧ s0.heap.get? L = none ∧ L ∉ tabs
  own : ∀ p ∈ owns, (∃ o, s.heap.get? p.1 = some o ∧ p.2 o) ∧ p.1 ≠ L ∧ P p.1 = none ∧ s0.heap.get? p.1 = none ∧ p.1 ∉ tabs
  nd : List.Pairwise (fun p q : Own => p.1 ≠ q.1) owns

noncomputable def asg : List Str → List (Option Value) → Str → Option Value
  | n :: ns, v :: vs, x => if x = n then v else asg ns vs x
  | _, _, _ => none

inductive Lk : List Str → List (Option Value) → Str → Value → Prop
  | here {x ns v vs} : Lk (x :: ns) (some v :: vs) x v
  | there {n x ns u v vs} : Lk ns vs x v → Lk (n :: ns) (u :: vs) x v
inductive Up : List Str → List (Option Value) → Str → Value → List (Option Value) → Prop
  | here {x ns u v vs} : Up (x :: ns) (u :: vs) x v (some v :: vs)
  | there {n x ns u v vs vs'} : Up ns vs x v vs' → Up (n :: ns) (u :: vs) x v (u :: vs')

theorem Lk.mem {ns vs x v} (h : Lk ns vs x v) : x ∈ ns := by induction h <;> simp_all
theorem Up.mem {ns vs x v vs'} (h : Up ns vs x v vs') : x ∈ ns := by induction h <;> simp_all
theorem Lk.asg {ns vs x v} (h : Lk ns vs x v) (nd : ns.Nodup) : asg ns vs x = some v := by
  induction h with
  | here => simp [Mine.asg]
  | @there n x ns u v vs h ih =>
    rw [List.nodup_cons] at nd
    have : n ≠ x := fun e => nd.1 (e ▸ h.mem)
    rw [Mine.asg, if_neg (fun e => this e.symm)]; exact ih nd.2
theorem Up.asg {ns vs x v vs'} (h : Up ns vs x v vs') (nd : ns.Nodup) : ∀ y, asg ns vs' y = if y = x then some v else asg ns vs y := by
  induction h with
  | here => intro y; simp only [Mine.asg]; split <;> simp_all
  | @there n x ns u v vs vs' h ih =>
    intro y
    rw [List.nodup_cons] at nd
    have hne : n ≠ x := fun e => nd.1 (e ▸ h.mem)
    simp only [Mine.asg, ih nd.2]
    by_cases hy : y = n
    · simp [hy, hne]
    · simp [hy]

structure FE (env : Env) (L : Addr) (ns : List Str) : Prop where
  loc : env.locals = L
  kind : env.scope.kind = .function
  lcl : ∀ x ∈ ns, env.kindOf x = some .local ∧ (x == ("__debug__" : Str)) = false
  nd : ns.Nodup
  glb : env.globals = mainGlobals
  blt : env.builtins = builtinsNs

section
variable {B : Bs} {P0 P : PM} {s0 s : Shared} {L : Addr} {m : Str → Option Value} {own : List Own} {A : Around} {E : Value → Shared → Prop}

theorem PCode.mono {P P' : PM} {a : Addr} {q : Str} (l : P.le P') (h : PCode P a q) : PCode P' a q := let ⟨o, vs, t, e, r⟩ := h; ⟨o, vs, t, l _ _ e, r⟩
theorem PCode.rec {P : PM} {a : Addr} {q : Str} {h : Heap} (k : ∀ a o, P a = some o → h.get? a = some o) (x : PCode P a q) : h.CodeRec (.ref a) q := let ⟨o, vs, t, e, d, r⟩ := x; ⟨a, o, vs, t, rfl, k _ _ e, d, r⟩
theorem Wd.step (h : Wd B P s) {s' : Shared} (k : ∀ b o, P b = some o → s'.heap.get? b = some o) (kt : ∀ b ∈ tabs, ∀ o, s.heap.get? b = some o → s'.heap.get? b = some o)
    (os : s'.os = s.os) (gb : AllBare s'.gens) : Wd B P s' :=
  ⟨k, h.bs, h.nt, fun t ht => let ⟨ps, e, tr, hc⟩ := h.tb t ht; ⟨ps, kt _ (by simp only [tabs, List.mem_cons, List.not_mem_nil, or_false] at ht ⊢; rcases ht with rfl | rfl <;> simp) _ e, tr, hc⟩, os.trans h.os, gb, kt 72 (by decide) _ h.t72⟩
/-- more is frozen -/
theorem Wd.more (h : Wd B P s) {P' : PM} (l : P.le P') (k : ∀ b o, P' b = some o → s.heap.get? b = some o) (nt : ∀ a ∈ tabs, P' a = none) : Wd B P' s :=
  ⟨k, fun a o e ht => l _ _ (h.bs a o e ht), nt, fun t ht => let ⟨ps, e, tr, hc⟩ := h.tb t ht; ⟨ps, e, tr, fun p c' e' => let ⟨a, e1, e2⟩ := hc p c' e'; ⟨a, e1, e2.mono l⟩⟩, h.os, h.gb, h.t72⟩
theorem Wd.base (h : Wd B P s) {a : Addr} {o : Obj} (e : B.h.get? a = some o) (ht : a ∉ tabs) : s.heap.get? a = some o := h.fz a o (h.bs a o e ht)
theorem Wd.nsb (h : Wd B P s) {a : Addr} {m : Str → Option Value} (e : B.h.Ns a m) (ht : a ∉ tabs) : s.heap.Ns a m := let ⟨o, es, ep, x, r⟩ := e; ⟨o, es, ep, h.base x ht, r⟩
theorem Wd.lim (h : Wd B P s) (ok : Ok B) : s.heap.NoLimit := let ⟨mc, x, r⟩ := ok.lim; ⟨mc, h.nsb x (by decide), r⟩

/-- nothing that stood is gone -/
theorem St.keep (h : St B P0 s0 P L m own s) {s' : Shared} (k : ∀ b o, s.heap.get? b = some o → s'.heap.get? b = some o) (os : s'.os = s.os) (gb : AllBare s'.gens) : St B P0 s0 P L m own s' :=
  ⟨h.wd.step (fun b o e => k b o (h.wd.fz b o e)) (fun b _ o e => k b o e) os gb, h.le, h.nw, fun a o e ht => k a o (h.kp a o e ht), h.ns.keeps k, h.lf,
   fun p hp => let ⟨⟨o, e, q⟩, r⟩ := h.own p hp; ⟨⟨o, k _ _ e, q⟩, r⟩, h.nd⟩
theorem St.tok (h : St B P0 s0 P L m own s) (t : Nat) : St B P0 s0 P L m own { s with toks := t } := h.keep (fun _ _ e => e) rfl h.wd.gb

/-- the frame alone has changed (or grown) -/
theorem St.frame (h : St B P0 s0 P L m own s) {h' : Heap} {m' : Str → Option Value} (k : Heap.ExtBut L s.heap h') (n : h'.Ns L m') (t : Nat) : St B P0 s0 P L m' own { s with heap := h', toks := t } := by
  have hne : ∀ b o, P b = some o → b ≠ L := fun b o e q => by rw [q, h.lf.1] at e; cases e
  refine ⟨h.wd.step (fun b o e => k b o (hne b o e) (h.wd.fz b o e)) (fun b hb o e => k b o (fun q => h.lf.2.2 (q ▸ hb)) e) rfl h.wd.gb, h.le, h.nw, fun a o e ht => k a o (fun q => ?_) (h.kp a o e ht), n, h.lf, fun p hp => ?_, h.nd⟩
  · rw [q, h.lf.2.1] at e; cases e
  · obtain ⟨⟨o, e, q⟩, r⟩ := h.own p hp
    exact ⟨⟨o, k _ _ r.1 e, q⟩, r⟩
/-- an own thing has changed -/
theorem St.chg {x : Addr} {p p' : Obj → Prop} {pre post : List Own} (h : St B P0 s0 P L m (pre ++ (x, p) :: post) s) {h' : Heap} {o' : Obj} (k : Heap.ExtBut x s.heap h') (e' : h'.get? x = some o') (hp' : p' o') (t : Nat) :
    St B P0 s0 P L m (pre ++ (x, p') :: post) { s with heap := h', toks := t } := by
  have hx := h.own (x, p) (by simp)
  have hne : ∀ b o, P b = some o → b ≠ x := fun b o e q => by rw [q, hx.2.2.1] at e; cases e
  have nd := h.nd
  rw [List.pairwise_append, List.pairwise_cons] at nd
  refine ⟨h.wd.step (fun b o e => k b o (hne b o e) (h.wd.fz b o e)) (fun b hb o e => k b o (fun q => hx.2.2.2.2 (q ▸ hb)) e) rfl h.wd.gb, h.le, h.nw, fun a o e ht => k a o (fun q => ?_) (h.kp a o e ht), ?_, h.lf, fun q hq => ?_, ?_⟩
  · have := hx.2.2.2.1; rw [q, this] at e; cases e
  · obtain ⟨o, es, ep, e, r⟩ := h.ns
    exact ⟨o, es, ep, k _ _ (Ne.symm hx.2.1) e, r⟩
  · rcases List.mem_append.mp hq with hq | hq
    · obtain ⟨⟨o, e, z⟩, r⟩ := h.own q (List.mem_append_left _ hq)
      exact ⟨⟨o, k _ _ (nd.2.2 q hq (x, p) (.head _)) e, z⟩, r⟩
    · rcases List.mem_cons.mp hq with rfl | hq
      · exact ⟨⟨o', e', hp'⟩, hx.2⟩
      · obtain ⟨⟨o, e, z⟩, r⟩ := h.own q (List.mem_append_right _ (.tail _ hq))
        exact ⟨⟨o, k _ _ (Ne.symm (nd.2.1.1 q hq)) e, z⟩, r⟩
  · rw [List.pairwise_append, List.pairwise_cons]
    exact ⟨nd.1, ⟨nd.2.1.1, nd.2.1.2⟩, fun a ha b hb => by
      rcases List.mem_cons.mp hb with rfl | hb
      · exact nd.2.2 a ha (x, p) (.head _)
      · exact nd.2.2 a ha b (.tail _ hb)⟩
/-- a new thing of one's own -/
theorem St.new (h : St B P0 s0 P L m own s) (o : Obj) {p : Obj → Prop} (hf : o.isFreed = false) (hp : p o) : St B P0 s0 P L m ((s.heap.objs.size, p) :: own) { s with heap := s.heap.push o } := by
  have g := h.keep (s' := { s with heap := s.heap.push o }) (fun b o' e => Heap.get?_push_of_some _ e) rfl h.wd.gb
  have lt : ∀ a o', s.heap.get? a = some o' → a ≠ s.heap.objs.size := fun a o' e => Nat.ne_of_lt (Heap.lt_size e)
  obtain ⟨oL, _, _, eL, _⟩ := h.ns
  have nn : s.heap.get? s.heap.objs.size = none := by
    cases q : s.heap.get? s.heap.objs.size with
    | none => rfl
    | some o' => exact absurd rfl (lt _ _ q)
  have nP : P s.heap.objs.size = none := by
    cases q : P s.heap.objs.size with
    | none => rfl
    | some o' => rw [h.wd.fz _ _ q] at nn; cases nn
  have nt : s.heap.objs.size ∉ tabs := fun ht => by
    obtain ⟨o', e⟩ := h.wd.tabAt ht
    rw [nn] at e; cases e
  have n0 : s0.heap.get? s.heap.objs.size = none := by
    cases q : s0.heap.get? s.heap.objs.size with
    | none => rfl
    | some o' => rw [h.kp _ _ q nt] at nn; cases nn
  refine ⟨g.wd, g.le, g.nw, g.kp, g.ns, g.lf, fun q hq => ?_, List.pairwise_cons.mpr ⟨fun q hq => ?_, h.nd⟩⟩
  · rcases List.mem_cons.mp hq with rfl | hq
    · exact ⟨⟨o, Heap.get?_push_size _ hf, hp⟩, Ne.symm (lt _ _ eL), nP, n0, nt⟩
    · exact g.own q hq
  · obtain ⟨⟨o', e, _⟩, _⟩ := h.own q hq
    exact Ne.symm (lt _ _ e)
noncomputable def PM.put (P : PM) (x : Addr) (o : Obj) : PM := fun a => if a = x then some o else P a
theorem PM.put_self (P : PM) (x : Addr) (o : Obj) : P.put x o x = some o := if_pos rfl
theorem PM.put_ne (P : PM) {x a : Addr} (o : Obj) (h : a ≠ x) : P.put x o a = P a := if_neg h
inductive Frz (B : Bs) (P0 : PM) (s0 : Shared) (P : PM) (L : Addr) (m : Str → Option Value) (own : List Own) (s : Shared) (x : Addr) (p : Obj → Prop) : Prop
  | mk (P' : PM) (o : Obj) (l : P.le P') (e : P' x = some o) (i : p o) (h : St B P0 s0 P' L m own s)
/-- an own thing is not changed any more -/
theorem St.freeze {x : Addr} {p : Obj → Prop} (h : St B P0 s0 P L m ((x, p) :: own) s) : Frz B P0 s0 P L m own s x p := by
  obtain ⟨⟨o, e, hp⟩, hL, hP, h0, ht⟩ := h.own (x, p) (.head _)
  dsimp only at e hp hL hP h0 ht
  have nd := List.pairwise_cons.mp h.nd
  have l : P.le (P.put x o) := fun a o' e' => by
    have : a ≠ x := fun q => by rw [q, hP] at e'; cases e'
    rw [PM.put_ne _ _ this]; exact e'
  refine ⟨P.put x o, o, l, PM.put_self .., hp, ⟨h.wd.more l (fun b o' e' => ?_) (fun a ha => ?_), h.le.trans l, fun a o' e' => ?_, h.kp, h.ns, ⟨?_, h.lf.2⟩, fun q hq => ?_, nd.2⟩⟩
  · by_cases q : b = x
    · subst q; rw [PM.put_self] at e'; rw [← e']; exact e
    · rw [PM.put_ne _ _ q] at e'; exact h.wd.fz b o' e'
  · have : a ≠ x := fun q => ht (q ▸ ha)
    rw [PM.put_ne _ _ this]; exact h.wd.nt a ha
  · by_cases q : a = x
    · subst q; exact .inr h0
    · rw [PM.put_ne _ _ q] at e'; exact h.nw a o' e'
  · rw [PM.put_ne _ _ (Ne.symm hL)]; exact h.lf.1
  · obtain ⟨r1, r2, r3, r4⟩ := h.own q (.tail _ hq)
    exact ⟨r1, r2, by rw [PM.put_ne _ _ (Ne.symm (nd.1 q hq))]; exact r3, r4⟩
/-- an own thing is forgotten -/
theorem St.drop {q : Own} (h : St B P0 s0 P L m (q :: own) s) : St B P0 s0 P L m own s := { h with own := fun p hp => h.own p (.tail _ hp), nd := (List.pairwise_cons.mp h.nd).2 }
theorem St.wk {x : Addr} {p p' : Obj → Prop} (h : St B P0 s0 P L m ((x, p) :: own) s) (k : ∀ o, p o → p' o) : St B P0 s0 P L m ((x, p') :: own) s :=
  { h with own := fun q hq => by
             rcases List.mem_cons.mp hq with rfl | hq
             · obtain ⟨⟨o, e, z⟩, r⟩ := h.own (x, p) (.head _); exact ⟨⟨o, e, k o z⟩, r⟩
             · exact h.own q (.tail _ hq)
           nd := List.pairwise_cons.mpr ⟨(List.pairwise_cons.mp h.nd).1, (List.pairwise_cons.mp h.nd).2⟩ }
theorem St.swap {q r : Own} (h : St B P0 s0 P L m (q :: r :: own) s) : St B P0 s0 P L m (r :: q :: own) s := by
  have n := List.pairwise_cons.mp h.nd
  have n' := List.pairwise_cons.mp n.2
  refine { h with own := fun p hp => ?_, nd := List.pairwise_cons.mpr ⟨fun p hp => ?_, List.pairwise_cons.mpr ⟨fun p hp => n.1 p (.tail _ hp), n'.2⟩⟩ }
  · rcases List.mem_cons.mp hp with rfl | hp
    · exact h.own _ (.tail _ (.head _))
    · rcases List.mem_cons.mp hp with rfl | hp
      · exact h.own _ (.head _)
      · exact h.own _ (.tail _ (.tail _ hp))
  · rcases List.mem_cons.mp hp with rfl | hp
    · exact Ne.symm (n.1 r (.head _))
    · exact n'.1 p hp
/-- back to the caller -/
theorem St.out (h : St B P0 s0 P L m own s) {φ : PM → Value → Prop} {v : Value} (hv : φ P v) : Out B P0 s0 φ v s := ⟨P, h.wd, h.le, h.nw, h.kp, hv⟩
/-- behind a call -/
theorem St.back (h : St B P0 s0 P L m own s) {s' : Shared} {φ : PM → Value → Prop} {v : Value} (o : Out B P s φ v s') : ∃ P', P.le P' ∧ φ P' v ∧ St B P0 s0 P' L m own s' := by
  obtain ⟨P', wd, l, nw, kp, hv⟩ := o
  obtain ⟨oL, es, ep, eL, r⟩ := h.ns
  have old : ∀ a o, s.heap.get? a = some o → P a = none → P' a = none := fun a o e n => by
    cases q : P' a with
    | none => rfl
    | some o' =>
      rcases nw a o' q with z | z
      · rw [n] at z; cases z
      · rw [e] at z; cases z
  refine ⟨P', l, hv, ⟨wd, h.le.trans l, fun a o e => ?_, fun a o e ht => kp a o (h.kp a o e ht) ht, ⟨oL, es, ep, kp _ _ eL h.lf.2.2, r⟩, ⟨old _ _ eL h.lf.1, h.lf.2⟩, fun q hq => ?_, h.nd⟩⟩
  · rcases nw a o e with z | z
    · exact h.nw a o z
    · right
      cases q : s0.heap.get? a with
      | none => rfl
      | some o' =>
        have ht : a ∉ tabs := fun ht => by rw [wd.nt a ht] at e; cases e
        rw [h.kp a o' q ht] at z; cases z
  · obtain ⟨⟨o, e, z⟩, r1, r2, r3, r4⟩ := h.own q hq
    exact ⟨⟨o, kp _ _ e r4, z⟩, r1, old _ _ e r2, r3, r4⟩
end
open PySem PySem.W PySem.W.X PyProof.Rows PySem.Calls
set_option Elab.async false
set_option maxRecDepth 100000
set_option maxHeartbeats 4000000
section
variable {B : Bs} {P0 P : PM} {s0 s : Shared} {L : Addr} {m : Str → Option Value} {own : List Own} {A : Around} {E : Value → Shared → Prop}

theorem St.cong (h : St B P0 s0 P L m own s) {m' : Str → Option Value} (e : ∀ x, m x = m' x) : St B P0 s0 P L m' own s := (funext e : m = m') ▸ h

theorem asg_append (ps more : List Str) (vs us : List (Option Value)) (x : Str) (hl : ps.length = vs.length) (hn : ∀ u ∈ us, u = none) : asg (ps ++ more) (vs ++ us) x = asg ps vs x := by
  induction ps generalizing vs with
  | nil =>
    cases vs with
    | nil =>
      simp only [List.nil_append, asg]
      induction more generalizing us with
      | nil => simp [asg]
      | cons n ns ih =>
        cases us with
        | nil => simp [asg]
        | cons u us =>
          simp only [asg]
          split
          · exact hn u (.head _)
          · exact ih us fun u hu => hn u (.tail _ hu)
    | cons => simp at hl
  | cons n ns ih =>
    cases vs with
    | nil => simp at hl
    | cons v vs =>
      simp only [List.cons_append, asg]
      rw [ih vs (by simpa using hl)]
theorem asg_zip (ps : List Str) (args : List Value) (x : Str) (nd : ps.Nodup) (hl : ps.length = args.length) : (ps.zip args).reverse.lookup x = asg ps (args.map some) x := by
  induction ps generalizing args with
  | nil => simp [asg]
  | cons n ns ih =>
    cases args with
    | nil => simp at hl
    | cons v vs =>
      rw [List.nodup_cons] at nd
      simp only [List.zip_cons_cons, List.reverse_cons, List.lookup_append, List.map_cons, asg]
      rw [ih vs nd.2 (by simpa using hl)]
      by_cases hx : x = n
      · subst hx
        have hno : asg ns (vs.map some) x = none := by
          have : ∀ (l : List Str) (us : List (Option Value)), x ∉ l → asg l us x = none := by
            intro l
            induction l with
            | nil => intro us _; simp [asg]
            | cons y l ihl =>
              intro us hy
              cases us with
              | nil => simp [asg]
              | cons u us => simp only [asg]; rw [if_neg (fun e => by subst e; exact hy (.head _))]; exact ihl us fun h => hy (.tail _ h)
          exact this _ _ nd.1
        simp [hno]
      · have hb : (x == n) = false := beq_eq_false_iff_ne.mpr hx
        simp [hx, List.lookup, hb]

theorem Wd.codeRec (h : Wd B P s) {c : Addr} {q : Str} (e : B.h.CodeRec (.ref c) q) (ht : c ∉ tabs) : s.heap.CodeRec (.ref c) q :=
  let ⟨c1, o, vs, t, hc, ho, hd, hv⟩ := e
  ⟨c1, o, vs, t, hc, h.base ho (by cases hc; exact ht), hd, hv⟩

theorem St.start (wd : Wd B P s) {h' : Heap} {m : Str → Option Value} {t : Nat} (n : h'.Ns s.heap.objs.size m) (k : ∀ b o, s.heap.get? b = some o → h'.get? b = some o) :
    St B P s P s.heap.objs.size m [] { s with heap := h', toks := t } := by
  have nn : s.heap.get? s.heap.objs.size = none := by
    cases q : s.heap.get? s.heap.objs.size with
    | none => rfl
    | some o' => exact absurd (Heap.lt_size q) (Nat.lt_irrefl _)
  refine ⟨wd.step (fun b o e => k b o (wd.fz b o e)) (fun b _ o e => k b o e) rfl wd.gb, PM.le.refl _, fun a o e => .inl e, fun a o e _ => k a o e, n, ⟨?_, nn, fun ht => ?_⟩, (fun p hp => nomatch hp), List.Pairwise.nil⟩
  · cases q : P s.heap.objs.size with
    | none => rfl
    | some o' => rw [wd.fz _ _ q] at nn; cases nn
  · obtain ⟨o', e⟩ := wd.tabAt ht
    rw [nn] at e; cases e

/-- a plain def of the text is entered -/
theorem enter (ok : Ok B) (wd : Wd B P s) {f c : Addr} {fo : Obj} {fd : FuncData} {body : List Stmt} {args : List Value} {ps more : List Str} {φ : PM → Value → Prop}
    (hroom : A.depth < recursionLimit) (hK : (hz.heap_157 B.w.params).lookup f = some fo) (hd : fo.data = .func fd) (ht : f ∉ tabs) (hc : fd.code = .ref c) (hct : c ∉ tabs) (hci : codeIn (hz.heap_157 B.w.params) (.ref c) fd.qualname = true)
    (hbody : fd.body = .stmts body) (hbind : BindsTo s fd ⟨args, []⟩ (ps.zip args)) (hlen : ps.length = args.length)
    (hcell : (fd.scope.names.all fun x => decide (x.2 ≠ .cell)) = true) (hloc : ((ps ++ more).all fun x => decide (fd.scope.names.lookup x = some .local) && !(x == ("__debug__" : Str))) = true) (hnd : (ps ++ more).Nodup)
    (hg : fd.globals = mainGlobals) (hb : fd.builtins = builtinsNs)
    (h : ∀ L s1, St B P s P L (asg (ps ++ more) (args.map some ++ more.map fun _ => none)) [] s1 → FE (callEnv fd L f) L (ps ++ more) →
      wpAny (mdl B) (A.deeper (callEnv fd L f)) (execs body (callEnv fd L f)) (fun fl s' => Out B P s φ (match fl with | .ret v => v | _ => .none) s') (fun _ _ => False) s1)
    (hco : fd.scope.isCoroutine = false) (hgen : fd.scope.isGenerator = false) (hk : fd.scope.kind = .function) :
    Spec B A (.ref f) args P s φ := by
  have hloc' : ∀ x ∈ ps ++ more, fd.scope.names.lookup x = some .local ∧ (x == ("__debug__" : Str)) = false := fun x hx => by
    have := List.all_eq_true.mp hloc x hx
    rw [Bool.and_eq_true] at this
    exact ⟨of_decide_eq_true this.1, by simpa using this.2⟩
  have ndp : ps.Nodup := (List.nodup_append.mp hnd).1
  refine wpAny_call (codeAny_call_def (binds := ps.zip args) hroom (wd.base (ok.X _ _ hK) ht) hd (wd.lim ok) (hc ▸ wd.codeRec (codeRec_of ok.X hci) hct) hbody hbind
    (fun x hx => of_decide_eq_true (List.all_eq_true.mp hcell x hx)) (fun x hx => (hloc' x.1 (List.mem_append_left _ (List.of_mem_zip hx).1)).1) (fun h0 hns hk0 => ?_) hco hgen hk)
  refine wpAny_mono (h s.heap.objs.size _ (St.cong (St.start wd hns hk0) fun x => ?_) ⟨rfl, hk, fun x hx => hloc' x hx, hnd, hg, hb⟩) (fun fl s' o => o) fun _ _ x => x.elim
  rw [asg_zip ps args x ndp hlen, asg_append _ _ _ _ _ (by simpa using hlen) (fun u hu => by obtain ⟨_, _, rfl⟩ := List.mem_map.mp hu; rfl)]
end
open PySem PySem.W PySem.W.X PyProof.Rows PySem.Calls
set_option Elab.async false
set_option maxRecDepth 100000
set_option maxHeartbeats 4000000
noncomputable def fdAt (p : Params) (f : Addr) : FuncData := match (hz.heap_157 p).lookup f with
  | some ⟨_, _, .func fd, _⟩ => fd
  | _ => default
noncomputable def fnHere (K : Frag) (f : Addr) : Bool := match K.lookup f with
  | some ⟨_, _, .func _, _⟩ => true
  | _ => false
theorem fnHere_of {p : Params} {f : Addr} (h : fnHere (hz.heap_157 p) f = true) : ∃ oc od osl, (hz.heap_157 p).lookup f = some ⟨oc, od, .func (fdAt p f), osl⟩ := by
  unfold fnHere at h
  unfold fdAt
  split at h
  · rename_i oc od fd osl e
    rw [e]
    exact ⟨oc, od, osl, rfl⟩
  · cases h
noncomputable def bodyAt (k : Nat) : List Stmt := match PySem.Challenge.pw_mj0128_01.main.body[k]? with
  | some (.FunctionDef _ _ b _ _ _ _ _ _ _) => b
  | _ => []
noncomputable abbrev env (B : Bs) (f L : Addr) : Env := callEnv (fdAt B.w.params f) L f

section
variable {B : Bs} {P : PM} {s : Shared}
theorem enterKB (ok : Ok B) (wd : Wd B P s) (f k c : Nat) (ps more : List Str) {d u : Nat} {args : List Value} {φ : PM → Value → Prop}
    (hK : ∀ p, fnHere (hz.heap_157 p) f = true) (hc : ∀ p, (fdAt p f).code = .ref c) (hci : ∀ p, codeIn (hz.heap_157 p) (.ref c) (fdAt p f).qualname = true)
    (hbody : ∀ p, (fdAt p f).body = .stmts (bodyAt k)) (hbind : BindsTo s (fdAt B.w.params f) ⟨args, []⟩ (ps.zip args))
    (hfl : ∀ p, ((fdAt p f).globals = mainGlobals ∧ (fdAt p f).builtins = builtinsNs) ∧ (fdAt p f).scope.isCoroutine = false ∧ (fdAt p f).scope.isGenerator = false ∧ (fdAt p f).scope.kind = .function ∧
      ((fdAt p f).scope.names.all fun x => decide (x.2 ≠ .cell)) = true ∧ ((ps ++ more).all fun x => decide ((fdAt p f).scope.names.lookup x = some .local) && !(x == ("__debug__" : Str))) = true)
    (hnd : decide (ps ++ more).Nodup = true) (htb : decide (f ∉ tabs ∧ c ∉ tabs) = true) (hlen : ps.length = args.length) (hroom : d < recursionLimit)
    (h : ∀ L s1, St B P s P L (asg (ps ++ more) (args.map some ++ more.map fun _ => none)) [] s1 → FE (env B f L) L (ps ++ more) →
      wpAny (mdl B) (AA (d + 1) (u + 3)) (execs (bodyAt k) (env B f L)) (fun fl s' => Out B P s φ (match fl with | .ret v => v | _ => .none) s') (fun _ _ => False) s1) :
    Spec B (AA d u) (.ref f) args P s φ := by
  obtain ⟨oc, od, osl, e⟩ := fnHere_of (hK B.w.params)
  obtain ⟨h1, h2, h3, h4, h5, h6⟩ := hfl B.w.params
  have ht := of_decide_eq_true htb
  exact enter ok wd hroom e rfl ht.1 (hc _) ht.2 (hci _) (hbody _) hbind hlen h5 h6 (of_decide_eq_true hnd) h1.1 h1.2 h h2 h3 h4
theorem enterK (ok : Ok B) (wd : Wd B P s) (f k c : Nat) (ps more : List Str) {d u : Nat} {args : List Value} {φ : PM → Value → Prop}
    (hK : ∀ p, fnHere (hz.heap_157 p) f = true) (hc : ∀ p, (fdAt p f).code = .ref c) (hci : ∀ p, codeIn (hz.heap_157 p) (.ref c) (fdAt p f).qualname = true)
    (hbody : ∀ p, (fdAt p f).body = .stmts (bodyAt k)) (hbind : ∀ p, bindArgs (fdAt p f) ⟨args, []⟩ = pure (ps.zip args))
    (hfl : ∀ p, ((fdAt p f).globals = mainGlobals ∧ (fdAt p f).builtins = builtinsNs) ∧ (fdAt p f).scope.isCoroutine = false ∧ (fdAt p f).scope.isGenerator = false ∧ (fdAt p f).scope.kind = .function ∧
      ((fdAt p f).scope.names.all fun x => decide (x.2 ≠ .cell)) = true ∧ ((ps ++ more).all fun x => decide ((fdAt p f).scope.names.lookup x = some .local) && !(x == ("__debug__" : Str))) = true)
    (hnd : decide (ps ++ more).Nodup = true) (htb : decide (f ∉ tabs ∧ c ∉ tabs) = true) (hlen : ps.length = args.length) (hroom : d < recursionLimit)
    (h : ∀ L s1, St B P s P L (asg (ps ++ more) (args.map some ++ more.map fun _ => none)) [] s1 → FE (env B f L) L (ps ++ more) →
      wpAny (mdl B) (AA (d + 1) (u + 3)) (execs (bodyAt k) (env B f L)) (fun fl s' => Out B P s φ (match fl with | .ret v => v | _ => .none) s') (fun _ _ => False) s1) :
    Spec B (AA d u) (.ref f) args P s φ :=
  enterKB ok wd f k c ps more hK hc hci hbody (BindsTo.of_eq (hbind _)) hfl hnd htb hlen hroom h
end
open PySem PySem.W PySem.W.X PyProof.Rows PySem.Calls
set_option Elab.async false
set_option maxRecDepth 100000
set_option maxHeartbeats 4000000
/-- what a statement leaves: on to the rest, or away -/
noncomputable def Nx (Q : Flow → Shared → Prop) (k : Shared → Prop) : Flow → Shared → Prop
  | .next, s => k s
  | f, s => Q f s
theorem Nx.next {Q : Flow → Shared → Prop} {k : Shared → Prop} {s : Shared} (h : k s) : Nx Q k .next s := h
theorem Nx.ret {Q : Flow → Shared → Prop} {k : Shared → Prop} {s : Shared} {v : Value} (h : Q (.ret v) s) : Nx Q k (.ret v) s := h

noncomputable def isTup (vs : List Value) (o : Obj) : Prop := ∃ n, o = { cls := .type "tuple", data := .seq vs.toArray n }
noncomputable def isLst (vs : List Value) (o : Obj) : Prop := ∃ n, o = { cls := .type "list", data := .seq vs.toArray n }
inductive RT (P : PM) (v : Value) (vs : List Value) : Prop
  | mk (a : _) (o : _) (x1 : v = .ref a) (x2 : P a = some o) (x3 : isTup vs o)
inductive RL (P : PM) (v : Value) (vs : List Value) : Prop
  | mk (a : _) (o : _) (x1 : v = .ref a) (x2 : P a = some o) (x3 : isLst vs o)
theorem RT.mono {P P' : PM} {v : Value} {vs : List Value} (l : P.le P') (h : RT P v vs) : RT P' v vs := let ⟨a, o, e, p, r⟩ := h; ⟨a, o, e, l _ _ p, r⟩
theorem RL.mono {P P' : PM} {v : Value} {vs : List Value} (l : P.le P') (h : RL P v vs) : RL P' v vs := let ⟨a, o, e, p, r⟩ := h; ⟨a, o, e, l _ _ p, r⟩

section
variable {B : Bs} {P0 P : PM} {s0 s : Shared} {L : Addr} {m : Str → Option Value} {own : List Own} {A : Around} {E : Value → Shared → Prop} {e : Env} {ns : List Str} {vs vs' : List (Option Value)} {M : Model}

theorem seq {st : Stmt} {rest : List Stmt} {Q : Flow → Shared → Prop} (h : wpAny M A (exec st e) (Nx Q fun s' => wpAny M A (execs rest e) Q E s') E s) : wpAny M A (execs (st :: rest) e) Q E s :=
  wpAny_execs_cons (wpAny_mono h (fun f s' x => by cases f <;> exact x) fun _ _ x => x)
theorem seq0 {Q : Flow → Shared → Prop} (h : Q .next s) : wpAny M A (execs [] e) Q E s := wpAny_execs_nil h

theorem ldv {x : Str} {pos : Pos} {v : Value} {Q : Value → Shared → Prop} (h : St B P0 s0 P L (asg ns vs) own s) (fe : FE e L ns) (lk : Lk ns vs x v) (q : Q v s) : wpAny M A (eval (.Name x pos) e) Q E s :=
  wpAny_Name (wpAny_loadName_local fe.kind (fe.lcl x lk.mem).1 (fe.loc ▸ h.ns) (lk.asg fe.nd) q) (fe.lcl x lk.mem).2
theorem ldn {x : Str} {v : Value} {Q : Value → Shared → Prop} (h : St B P0 s0 P L (asg ns vs) own s) (fe : FE e L ns) (lk : Lk ns vs x v) (q : Q v s) : wpAny M A (loadName e x) Q E s :=
  wpAny_loadName_local fe.kind (fe.lcl x lk.mem).1 (fe.loc ▸ h.ns) (lk.asg fe.nd) q
theorem stv {x : Str} {v : Value} {Q : Unit → Shared → Prop} (h : St B P0 s0 P L (asg ns vs) own s) (fe : FE e L ns) (up : Up ns vs x v vs') (q : ∀ s', St B P0 s0 P L (asg ns vs') own s' → Q () s') : wpAny M A (storeName e x v) Q E s := by
  refine wpAny_storeName_local (fe.lcl x up.mem).1 (fe.loc ▸ h.ns) (fun h' hn hs => ?_) (by rw [fe.kind]; rfl)
  rw [fe.loc] at hn hs
  refine q _ ((h.frame hs.extBut hn _).cong fun y => ?_)
  rw [up.asg fe.nd]
theorem stb {x : Str} {pos : Pos} {v : Value} {Q : Unit → Shared → Prop} (h : St B P0 s0 P L (asg ns vs) own s) (fe : FE e L ns) (up : Up ns vs x v vs') (q : ∀ s', St B P0 s0 P L (asg ns vs') own s' → Q () s') : wpAny M A (assign (.Name x pos) e v) Q E s :=
  wpAny_assign_Name (stv h fe up q)
theorem ldg {x : Str} {pos : Pos} {v : Value} {Q : Value → Shared → Prop} (ok : Ok B) (h : St B P0 s0 P L m own s) (fe : FE e L ns) (hv : B.mg x = some v) (hk : e.kindOf x = some .globalImplicit) (q : Q v s) (hd : (x == ("__debug__" : Str)) = false := by decide) :
    wpAny M A (eval (.Name x pos) e) Q E s := Name_function_global fe.kind hk (loadGlobal_global (fe.glb ▸ h.wd.nsb ok.g (by decide)) hv q) hd
theorem ldb {x : Str} {pos : Pos} {v : Value} {Q : Value → Shared → Prop} (ok : Ok B) (h : St B P0 s0 P L m own s) (fe : FE e L ns) (hv : B.mg x = none) (hb : bootBuiltins x = some v) (hk : e.kindOf x = some .globalImplicit) (q : Q v s) (hn : x ≠ "__name__" := by decide) (hd : (x == ("__debug__" : Str)) = false := by decide) :
    wpAny M A (eval (.Name x pos) e) Q E s := Name_function_global fe.kind hk (loadGlobal_builtin (fe.glb ▸ h.wd.nsb ok.g (by decide)) hv (fe.blt ▸ h.wd.nsb ok.b (by decide)) ((ok.blt x hn).trans hb) q) hd

theorem kint {i : Int} {k : Nat} {pos : Pos} {Q : Value → Shared → Prop} (h : St B P0 s0 P L m own s) (q : ∀ t s', St B P0 s0 P L m own s' → Q (.int i t) s') : wpAny M A (eval (.Constant (.int i) k pos) e) Q E s :=
  wpAny_Constant_int (q _ _ (h.tok _))
theorem newTup {vs : List Value} {Q : Value → Shared → Prop} (h : St B P0 s0 P L m own s) (q : ∀ a s', St B P0 s0 P L m ((a, isTup vs) :: own) s' → Q (.ref a) s') (hsz : vs.length ≤ sizeLine := by size_fits) : wpAny M A (newTuple vs) Q E s :=
  wpAny_newObj_type (q _ _ (h.new _ rfl ⟨0, rfl⟩)) (by show vs.toArray.size ≤ sizeLine; rw [List.size_toArray]; exact hsz)
theorem newLst {vs : List Value} {Q : Value → Shared → Prop} (h : St B P0 s0 P L m own s) (q : ∀ a s', St B P0 s0 P L m ((a, isLst vs) :: own) s' → Q (.ref a) s') (hsz : vs.length ≤ sizeLine := by size_fits) : wpAny M A (newList vs) Q E s :=
  wpAny_newObj_type (q _ _ (h.new _ rfl ⟨0, rfl⟩)) (by show vs.toArray.size ≤ sizeLine; rw [List.size_toArray]; exact hsz)
theorem addI {a b : Int} {t u : Tok} {Q : Value → Shared → Prop} (h : St B P0 s0 P L m own s) (q : ∀ t s', St B P0 s0 P L m own s' → Q (.int (a + b) t) s') : wpAny (mdl B) A (binaryOp .Add (.int a t) (.int b u)) Q E s := add_int (q _ _ (h.tok _))
theorem modI {a b : Int} {t u : Tok} {Q : Value → Shared → Prop} (h : St B P0 s0 P L m own s) (hb : b ≠ 0) (q : ∀ t s', St B P0 s0 P L m own s' → Q (.int (a.fmod b) t) s') : wpAny (mdl B) A (binaryOp .Mod (.int a t) (.int b u)) Q E s := mod_int' hb (q _ _ (h.tok _))

noncomputable def FnO (h : Heap) (f : Addr) : Prop := ∃ o fd, h.get? f = some o ∧ o.data = .func fd
theorem keeps_Fn {f : Addr} (h : Heap) (X : FnO h f) : ∃ k, (k = Keeper.frame ∨ k = Keeper.machine ∨ k = Keeper.boundFrame) ∧ Looks M h (keeperOf (.ref f)) k := by
  obtain ⟨⟨c, d, dt, sl⟩, fd, e, rfl⟩ := X
  exact ⟨.frame, .inl rfl, (Looks.ld (part := none) e).andThen .now⟩
/-- a def of the text is called with places alone -/
theorem callD {pos : Pos} {f : Addr} {x : Expr} {rest : List Expr} {Q : Value → Shared → Prop}
    (h : wpAny M A (spliced (backTo pos (starEach (x :: rest) e))) (fun vs s₁ => FnO s₁.heap f ∧ wpAny M A (call (.ref f) vs) Q E s₁) E s)
    (he : starEach (x :: rest) e = (false, eval x e) :: starEach rest e := by rfl) (hplain : (backTo pos (starEach rest e)).any (·.1) = false := by rfl) : wpAny M A (callWith pos (.ref f) [] (backTo pos (starEach (x :: rest) e)) []) Q E s := by
  rw [he] at h ⊢
  exact callWith_of (P := fun hp => FnO hp f) (by show ((false || (backTo pos (starEach rest e)).any (·.1)) || false) = false; rw [hplain]; rfl) keeps_Fn (evalArgs_plain h)
theorem callD0 {pos : Pos} {f : Addr} {Q : Value → Shared → Prop} (X : FnO s.heap f) (h : wpAny M A (call (.ref f) []) Q E s) : wpAny M A (callWith pos (.ref f) [] (backTo pos (starEach [] e)) []) Q E s :=
  callWith_of (P := fun hp => FnO hp f) rfl keeps_Fn (evalArgs_nil3 ⟨X, h⟩)
theorem St.fn (h : St B P0 s0 P L m own s) (ok : Ok B) {f : Addr} (hf : fnHere (hz.heap_157 B.w.params) f = true) (ht : f ∉ tabs := by decide) : FnO s.heap f := by
  obtain ⟨oc, od, osl, e⟩ := fnHere_of hf
  exact ⟨_, _, h.wd.base (ok.X _ _ e) ht, rfl⟩
/-- a call by its contract -/
theorem callS {f : Value} {args : List Value} {φ : PM → Value → Prop} {Q : Value → Shared → Prop} (h : St B P0 s0 P L m own s) (sp : Spec B A f args P s φ) (q : ∀ P' v s', P.le P' → φ P' v → St B P0 s0 P' L m own s' → Q v s') : wpAny (mdl B) A (call f args) Q E s := by
  refine wpAny_mono sp (fun v s' o => ?_) fun _ _ x => x.elim
  obtain ⟨P', l, hv, h'⟩ := h.back o
  exact q P' v s' l hv h'
/-- less room asked -/
theorem Spec.room {f : Value} {args : List Value} {φ : PM → Value → Prop} {d u d' u' : Nat} (sp : Spec B (AA d u) f args P s φ) (hd : d' ≤ d) (hu : u' ≤ u) : Spec B (AA d' u') f args P s φ :=
  fun Γ p hΓ => sp Γ p ⟨hΓ.1, Nat.le_trans hΓ.2.1 hd, fun _ hl => (nomatch hl), fun _ hl => (nomatch hl), Nat.le_trans hΓ.2.2.2.2 hu⟩
theorem Spec.mono {f : Value} {args : List Value} {φ ψ : PM → Value → Prop} (sp : Spec B A f args P s φ) (k : ∀ P' v, φ P' v → ψ P' v) : Spec B A f args P s ψ :=
  wpAny_mono sp (fun _ _ ⟨P', a, b, c, d, hv⟩ => ⟨P', a, b, c, d, k _ _ hv⟩) fun _ _ x => x
end
open PySem PySem.W PySem.W.X PyProof.Rows PySem.Calls
set_option Elab.async false
set_option maxRecDepth 100000
set_option maxHeartbeats 4000000
/-- the globals of the text -/
theorem mg63 {B : Bs} (ok : Ok B) : B.mg "add_callers" = some (.ref 63) := mg_of ok.X ok.g (by kernel_rfl)

noncomputable abbrev Quad := Int × Int × Int × Int
noncomputable def Quad.add (p q : Quad) : Quad := (p.1 + q.1, p.2.1 + q.2.1, p.2.2.1 + q.2.2.1, p.2.2.2 + q.2.2.2)
noncomputable def isDct (B : Bs) (kvs : List (Str × Value)) (o : Obj) : Prop := ∃ es ep, o.ExactDict ∧ o.data = .dict es ep ∧ KeysOf (strKind prg B.w) es ∧ Pairs (strKind prg B.w) es.toList kvs ∧ (kvs.map (·.1)).Nodup
inductive RD (B : Bs) (P : PM) (v : Value) (kvs : List (Str × Value)) : Prop
  | mk (a : _) (o : _) (x1 : v = .ref a) (x2 : (a == sysModules) = false) (x3 : P a = some o) (x4 : isDct B kvs o)
theorem RD.mono {B : Bs} {P P' : PM} {v : Value} {kvs : List (Str × Value)} (l : P.le P') (h : RD B P v kvs) : RD B P' v kvs := let ⟨a, o, e, n, p, r⟩ := h; ⟨a, o, e, n, l _ _ p, r⟩

local macro_rules | `(tactic| walk_at "n") => `(tactic| refine (?_ : wpAny _ _ _ _ _ _))
local macro_rules | `(tactic| walk_at "h") => `(tactic| refine let fF := _; (?_ : wpAny _ _ _ fF _ _))
local macro_rules | `(tactic| walk_at "lk") => `(tactic| repeat (first | with_reducible exact Lk.here | with_reducible apply Lk.there))
local macro_rules | `(tactic| walk_at "up") => `(tactic| repeat (first | with_reducible exact Up.here | with_reducible apply Up.there))

section
variable {B : Bs} {P0 P : PM} {s0 s : Shared} {L : Addr} {m : Str → Option Value} {own : List Own} {A : Around} {E : Value → Shared → Prop} {e : Env} {ns : List Str} {vs vs' : List (Option Value)} {M : Model}
theorem St.isTup (h : St B P0 s0 P L m own s) {a : Addr} {o : Obj} {vs : List Value} (p : P a = some o) (i : isTup vs o) : s.heap.IsTuple a vs.toArray := by
  obtain ⟨n, rfl⟩ := i
  exact ⟨_, h.wd.fz _ _ p, rfl, n, rfl⟩
/-- a tuple is unpacked into names -/
theorem unpT {elts : List Expr} {k : Nat} {pos : Pos} {v : Value} {xs : List Value} {Q : Unit → Shared → Prop} (h : St B P0 s0 P L m own s) (hh : A.handled = none) (r : RT P v xs)
    (hn : (assignEach elts e).length = xs.length) (hstar : (assignEach elts e).findIdx? (·.1) = none)
    (q : ∀ s', St B P0 s0 P L m own s' → wpAny (mdl B) A (assignInOrder ((assignEach elts e).map (·.2)) xs) Q E s') : wpAny (mdl B) A (assign (.Tuple elts k pos) e v) Q E s := by
  obtain ⟨a, o, rfl, p, i⟩ := r
  refine wpAny_assign_Tuple hh (h.isTup p i) (by simpa using hn) hstar fun h' hx => ?_
  refine q _ (h.keep (fun b o' eo => hx b o' (Nat.ne_of_lt (Heap.lt_size eo)) eo) rfl h.wd.gb)
theorem asgMore {t : Value → Sem Unit} {ts : List (Value → Sem Unit)} {x : Value} {xs : List Value} {Q : Unit → Shared → Prop}
    (h : wpAny M A (t x) (fun _ s₁ => wpAny M A (assignInOrder ts xs) Q E s₁) E s) : wpAny M A (assignInOrder (t :: ts) (x :: xs)) Q E s := wpAny_assignInOrder_more h
end
open PySem PySem.W PySem.W.X PyProof.Rows PySem.Calls
set_option Elab.async false
set_option maxRecDepth 100000
set_option maxHeartbeats 4000000
noncomputable abbrev no : Value → Shared → Prop := fun _ _ => False
section
variable {B : Bs} {P0 P P1 : PM} {s0 s : Shared} {L : Addr} {m : Str → Option Value} {own : List Own} {A : Around} {E : Value → Shared → Prop} {e : Env} {ns : List Str} {vs vs' : List (Option Value)} {M : Model}

theorem St.at (h : St B P0 s0 P L m own s) {a : Addr} {o : Obj} (p : P a = some o) : s.heap.get? a = some o := h.wd.fz _ _ p
theorem St.head {x : Addr} {p : Obj → Prop} (h : St B P0 s0 P L m ((x, p) :: own) s) : ∃ o, s.heap.get? x = some o ∧ p o := (h.own _ (.head _)).1
theorem St.chg0 {x : Addr} {p p' : Obj → Prop} (h : St B P0 s0 P L m ((x, p) :: own) s) {h' : Heap} {o' : Obj} (k : Heap.ExtBut x s.heap h') (e' : h'.get? x = some o') (hp' : p' o') (t : Nat) :
    St B P0 s0 P L m ((x, p') :: own) { s with heap := h', toks := t } := St.chg (pre := []) h k e' hp' t
/-- the head of the own things changes and is forgotten -/
theorem St.chgDrop {x : Addr} {p : Obj → Prop} (h : St B P0 s0 P L m ((x, p) :: own) s) {h' : Heap} (k : Heap.ExtBut x s.heap h') (t : Nat) :
    St B P0 s0 P L m own { s with heap := h', toks := t } := by
  have hx := h.own (x, p) (.head _)
  have hne : ∀ b o, P b = some o → b ≠ x := fun b o e q => by rw [q, hx.2.2.1] at e; cases e
  have nd := List.pairwise_cons.mp h.nd
  refine ⟨h.wd.step (fun b o e => k b o (hne b o e) (h.wd.fz b o e)) (fun b hb o e => k b o (fun q => hx.2.2.2.2 (q ▸ hb)) e) rfl h.wd.gb, h.le, h.nw, fun a o e ht => k a o (fun q => ?_) (h.kp a o e ht), ?_, h.lf, fun q hq => ?_, nd.2⟩
  · have := hx.2.2.2.1; rw [q, this] at e; cases e
  · obtain ⟨o, es, ep, e, r⟩ := h.ns
    exact ⟨o, es, ep, k _ _ (Ne.symm hx.2.1) e, r⟩
  · obtain ⟨⟨o, e, z⟩, r⟩ := h.own q (.tail _ hq)
    exact ⟨⟨o, k _ _ (Ne.symm (nd.1 q hq)) e, z⟩, r⟩

/-- an iterator of n turns: what it gives at each -/
structure Itr (B : Bs) (A : Around) (P : PM) (it : Addr) (n : Nat) (V : Nat → Value → Prop) (p : Nat → Obj → Prop) : Prop where
  item : ∀ {k : Nat} {P0 s0 P' L m own s E} {Q : Option Value → Shared → Prop}, k < n → P.le P' → St B P0 s0 P' L m ((it, p k) :: own) s → (∀ v s', V k v → St B P0 s0 P' L m ((it, p (k + 1)) :: own) s' → Q (some v) s') → wpAny (mdl B) A (pyNext (.ref it)) Q E s
  done : ∀ {P0 s0 P' L m own s E} {Q : Option Value → Shared → Prop}, P.le P' → St B P0 s0 P' L m ((it, p n) :: own) s → (∀ s', St B P0 s0 P' L m own s' → Q none s') → wpAny (mdl B) A (pyNext (.ref it)) Q E s

noncomputable def isLI (l : Addr) (k : Nat) (o : Obj) : Prop := o.cls = .type "list_iterator" ∧ o.data = .fields #[.ref l, .int k 0]
theorem Itr.list (hh : A.handled = none) {l it : Addr} {o : Obj} {xs : List Value} (p : P l = some o) (i : isLst xs o) : Itr B A P it xs.length (fun k v => xs[k]? = some v) (isLI l) where
  item := fun {k} {_ _ _ _ _ _ _ _ _} hk l' h q => by
    obtain ⟨n, rfl⟩ := i
    obtain ⟨oi, ei, ci, di⟩ := h.head
    refine wpAny_pyNext_list_item ⟨oi, ei, ci, di⟩ ⟨_, h.at (l' _ _ p), rfl, n, rfl⟩ (x := xs[k]) (by simp [hk]) fun h' hit' hs' => ?_
    obtain ⟨oi', ei', ci', di'⟩ := hit'
    exact q _ _ (by simp [hk]) (h.chg0 hs'.extBut ei' ⟨ci', di'⟩ _)
  done := fun {_ _ _ _ _ _ _ _ _} l' h q => by
    obtain ⟨n, rfl⟩ := i
    obtain ⟨oi, ei, ci, di⟩ := h.head
    exact wpAny_pyNext_list_end hh ⟨oi, ei, ci, di⟩ ⟨_, h.at (l' _ _ p), rfl, n, rfl⟩ (by simp) fun h' he' => q _ (h.chgDrop he' _)
theorem selfLI {it l : Addr} {k : Nat} {Q : Value → Shared → Prop} (h : St B P0 s0 P L m ((it, isLI l k) :: own) s) (q : Q (.ref it) s) : wpAny (mdl B) A (pyIter (.ref it)) Q E s := by
  obtain ⟨oi, ei, ci, di⟩ := h.head
  exact wpAny_pyIter_listiter ⟨oi, ei, ci, di⟩ q
theorem iterL (h : St B P0 s0 P L m own s) {v : Value} {xs : List Value} {Q : Value → Shared → Prop} (hh : A.handled = none) (r : RL P v xs)
    (q : ∀ it p s', Itr B A P it xs.length (fun k v => xs[k]? = some v) p → St B P0 s0 P L m ((it, p 0) :: own) s' → Q (.ref it) s') : wpAny (mdl B) A (pyIter v) Q E s := by
  obtain ⟨l, o, rfl, p, i⟩ := r
  obtain ⟨n, e⟩ := id i
  exact wpAny_pyIter_list ⟨_, h.at p, by rw [e], n, by rw [e]⟩ (q _ _ _ (Itr.list hh p i) (h.new _ rfl ⟨rfl, rfl⟩))

/-- what a turn leaves -/
noncomputable def Lp (K : Shared → Prop) (Q : Flow → Shared → Prop) : Flow → Shared → Prop
  | .next, s => K s
  | .cont, s => K s
  | .brk, s => Q .next s
  | .ret v, s => Q (.ret v) s
theorem Lp.next {K : Shared → Prop} {Q : Flow → Shared → Prop} (h : K s) : Lp K Q .next s := h
theorem Lp.ret {K : Shared → Prop} {Q : Flow → Shared → Prop} {v : Value} (h : Q (.ret v) s) : Lp K Q (.ret v) s := h

/-- the state between the turns -/
inductive Bt (B : Bs) (P0 : PM) (s0 : Shared) (P : PM) (L : Addr) (ns : List Str) (it : Addr) (p : Nat → Obj → Prop) (Inv : Nat → PM → List (Option Value) → List Own → Prop) (k : Nat) (s : Shared) : Prop
  | mk (P' : _) (vs : _) (own : _) (x1 : P.le P') (x2 : Inv k P' vs own) (x3 : St B P0 s0 P' L (asg ns vs) ((it, p k) :: own) s)

theorem forItr {target : Expr} {body : List Stmt} {it : Addr} {n : Nat} {V : Nat → Value → Prop} {p : Nat → Obj → Prop} {Q : Flow → Shared → Prop} (hit : Itr B A P it n V p)
    (Inv : Nat → PM → List (Option Value) → List Own → Prop) (h0 : Inv 0 P vs own) (h : St B P0 s0 P L (asg ns vs) ((it, p 0) :: own) s)
    (turn : ∀ k P' vs' own' v s', k < n → V k v → P.le P' → Inv k P' vs' own' → St B P0 s0 P' L (asg ns vs') ((it, p (k + 1)) :: own') s' →
      wpAny (mdl B) A (assign target e v) (fun _ s₂ => wpAny (mdl B) A (execs body e) (Lp (Bt B P0 s0 P L ns it p Inv (k + 1)) Q) no s₂) no s')
    (fin : ∀ P' vs' own' s', P.le P' → Inv n P' vs' own' → St B P0 s0 P' L (asg ns vs') own' s' → Q .next s')
    (ht : ∀ v, letOwnedTupleGo target (.ref it) v = pure () := by intro _; rfl) :
    codeAny (mdl B) A (.forLoop target (.ref it) body [] e) (fun r s' => match r with | .ok f => Q f s' | .error x => cameBackBy (mdl B) A e E x s') s := by
  refine codeAny_forLoop (fun j s' => ∃ k, k ≤ n ∧ j = n - k ∧ Bt B P0 s0 P L ns it p Inv k s') ?_ n ⟨0, Nat.zero_le _, rfl, P, vs, own, PM.le.refl _, h0, h⟩ ht
  rintro j s' ⟨k, hk, rfl, P', vs', own', l, inv, h'⟩
  rcases Nat.lt_or_ge k n with hlt | hge
  · refine hit.item hlt l h' fun v s₁ hv h₁ => ?_
    refine wpAny_noRaise (wpAny_mono (turn k P' vs' own' v s₁ hlt hv l inv h₁) (fun _ s₂ h₂ => ?_) fun _ _ x => x)
    refine wpAny_noRaise (wpAny_mono h₂ (fun f s₃ h₃ => ?_) fun _ _ x => x)
    cases f with
    | next => exact ⟨n - (k + 1), by lia, k + 1, hlt, rfl, h₃⟩
    | cont => exact ⟨n - (k + 1), by lia, k + 1, hlt, rfl, h₃⟩
    | brk => exact h₃
    | ret v => exact h₃
  · obtain rfl : k = n := Nat.le_antisymm hk hge
    exact hit.done l h' fun s₁ h₁ => wpAny_execs_nil (fin P' vs' own' s₁ l inv h₁)
end
open PySem PySem.W PySem.W.X PyProof.Rows PySem.Calls
set_option Elab.async false
set_option maxRecDepth 100000
set_option maxHeartbeats 4000000
section
variable {B : Bs} {P0 P P1 : PM} {s0 s : Shared} {L : Addr} {m : Str → Option Value} {own : List Own} {A : Around} {E : Value → Shared → Prop} {e : Env} {ns : List Str} {vs vs' : List (Option Value)} {M : Model} {kvs : List (Str × Value)}

noncomputable abbrev skd (B : Bs) := strKind prg B.w
theorem isDct.dictOf {o : Obj} (i : isDct B kvs o) {h : Heap} {a : Addr} (p : h.get? a = some o) : h.DictOf (skd B) a kvs := let ⟨es, ep, r⟩ := i; ⟨o, es, ep, p, r⟩
theorem isDct.of {h : Heap} {a : Addr} (x : h.DictOf (skd B) a kvs) : ∃ o, h.get? a = some o ∧ isDct B kvs o := let ⟨o, es, ep, p, r⟩ := x; ⟨o, p, es, ep, r⟩
theorem isDct.nodup {o : Obj} (i : isDct B kvs o) : (kvs.map (·.1)).Nodup := let ⟨_, _, _, _, _, _, n⟩ := i; n
theorem St.ne1 (h : St B P0 s0 P L m own s) (ok : Ok B) {a : Addr} {p : Obj → Prop} (hm : (a, p) ∈ own) : (a == sysModules) = false := by
  have hp := (h.own _ hm).2.2.1
  cases q : a == sysModules with
  | false => rfl
  | true =>
    have : a = sysModules := beq_iff_eq.mp q
    have e1 : ((hz.heap_157 B.w.params).lookup 1).isSome = true := by kernel_rfl
    obtain ⟨o, e2⟩ := Option.isSome_iff_exists.mp e1
    have e := ok.X 1 o e2
    have := h.wd.bs 1 o e (by decide)
    subst a
    rw [show sysModules = 1 from rfl] at hp
    rw [hp] at this; cases this
theorem str_is (x : Str) (t : Tok) : (skd B).is x (.str x t) = true := by
  show Value.isStrOf x (.str x t) = true
  simp [Value.isStrOf]
theorem is_str {x : Str} {v : Value} (h : (skd B).is x v = true) : ∃ t, v = .str x t := Value.isStrOf_shape h

theorem St.fresh (h : St B P0 s0 P L m own s) : P s.heap.objs.size = none ∧ s0.heap.get? s.heap.objs.size = none ∧ s.heap.objs.size ∉ tabs ∧ s.heap.objs.size ≠ L ∧ ∀ q ∈ own, s.heap.objs.size ≠ q.1 := by
  have g := h.new (p := fun _ => True) { cls := .none } rfl trivial
  have x := g.own _ (.head _)
  have y := List.pairwise_cons.mp g.nd
  exact ⟨x.2.2.1, x.2.2.2.1, x.2.2.2.2, x.2.1, y.1⟩
theorem St.add (h : St B P0 s0 P L m own s) {a : Addr} {o : Obj} {p : Obj → Prop} (e : s.heap.get? a = some o) (hp : p o) (f : P a = none ∧ s0.heap.get? a = none ∧ a ∉ tabs ∧ a ≠ L ∧ ∀ q ∈ own, a ≠ q.1) : St B P0 s0 P L m ((a, p) :: own) s :=
  { h with own := fun q hq => by
             rcases List.mem_cons.mp hq with rfl | hq
             · exact ⟨⟨o, e, hp⟩, f.2.2.2.1, f.1, f.2.1, f.2.2.1⟩
             · exact h.own q hq
           nd := List.pairwise_cons.mpr ⟨f.2.2.2.2, h.nd⟩ }
theorem newD (h : St B P0 s0 P L m own s) {pos : Pos} {Q : Value → Shared → Prop} (q : ∀ a s', St B P0 s0 P L m ((a, isDct B []) :: own) s' → Q (.ref a) s') : wpAny M A (eval (.Dict [] [] pos) e) Q E s :=
  wpAny_Dict_empty (q _ _ (h.new _ rfl ⟨#[], 0, ⟨rfl, rfl, rfl⟩, rfl, fun _ he => by simp at he, .nil, .nil⟩))
/-- an own dict is stored into -/
theorem setD {d : Addr} {x : Str} {t : Tok} {v : Value} {Q : Unit → Shared → Prop} (h : St B P0 s0 P L m ((d, isDct B kvs) :: own) s) (hsz : kvs.length ≤ sizeLine)
    (q : ∀ s', St B P0 s0 P L m ((d, isDct B (stored kvs x v)) :: own) s' → Q () s') : wpAny (mdl B) A (setItem (.ref d) (.str x t) v) Q E s := by
  obtain ⟨o, p, i⟩ := h.head
  refine wpAny_setItem_pairs (knd := skd B) (str_is x t) (i.dictOf p) (fun h' hd hs => ?_) hsz
  obtain ⟨o', p', i'⟩ := isDct.of hd
  exact q _ (h.chg0 hs.extBut p' i' _)
theorem getD {d : Addr} {x : Str} {t : Tok} {v : Value} {o : Obj} {Q : Value → Shared → Prop} (h : St B P0 s0 P L m own s) (p : s.heap.get? d = some o) (i : isDct B kvs o) (hv : valueAt kvs x = some v)
    (q : ∀ s', St B P0 s0 P L m own s' → Q v s') : wpAny (mdl B) A (getItem (.ref d) (.str x t)) Q E s :=
  wpAny_getItem_of (knd := skd B) (str_is x t) (i.dictOf p).mapOf hv (q _ (h.tok _))
theorem inD {d : Addr} {x : Str} {t : Tok} {o : Obj} {Q : Value → Shared → Prop} (h : St B P0 s0 P L m own s) (hd : (d == sysModules) = false) (p : s.heap.get? d = some o) (i : isDct B kvs o)
    (q : ∀ s', St B P0 s0 P L m own s' → Q (.bool (valueAt kvs x).isSome) s') : wpAny (mdl B) A (compareOp .In (.str x t) (.ref d)) Q E s :=
  wpAny_in_of (knd := skd B) (str_is x t) hd (i.dictOf p).mapOf (q _ (h.tok _))

noncomputable def isII (d : Addr) (n ep k : Nat) (o : Obj) : Prop := ∃ ok ov, o = { cls := .type "dict_itemiterator", data := .fields #[.none, .bool false, .ref d, .int k 0, .int n 0, .int ep 0, ok, ov] }

theorem forItems {elts : List Expr} {x1 : Nat} {tpos pos apos cpos opos : Pos} {on : Str} {body : List Stmt} {dv : Value} {Q : Flow → Shared → Prop}
    (h : St B P0 s0 P L (asg ns vs) own s) (fe : FE e L ns) (hh : A.handled = none) (r : RD B P dv kvs) (lk : Lk ns vs on dv)
    (Inv : Nat → PM → List (Option Value) → List Own → Prop) (h0 : Inv 0 P vs own)
    (turn : ∀ it p k P' P'' vs' own' tv key x v s', kvs[k]? = some (x, v) → (∃ t, key = .str x t) → P.le P' → P'.le P'' → Inv k P' vs' own' → RT P'' tv [key, v] → St B P0 s0 P'' L (asg ns vs') ((it, p (k + 1)) :: own') s' →
      wpAny (mdl B) A (assign (.Tuple elts x1 tpos) e tv) (fun _ s₂ => wpAny (mdl B) A (execs body e) (Lp (Bt B P0 s0 P L ns it p Inv (k + 1)) Q) no s₂) no s')
    (fin : ∀ P' vs' own' s', P.le P' → Inv kvs.length P' vs' own' → St B P0 s0 P' L (asg ns vs') own' s' → Q .next s')
    (hline : (apos.endLine == cpos.line) = true) (hs : ∀ x, foldedSetIterable (.Call (.Attribute (.Name on opos) "items" apos) [] [] cpos) e x = pure x := by intro _; rfl)
    (hbase : attributeBase (.Name on opos) "items" e (eval (.Name on opos) e) = eval (.Name on opos) e := by rfl) :
    wpAny (mdl B) A (exec (.For (.Tuple elts x1 tpos) (.Call (.Attribute (.Name on opos) "items" apos) [] [] cpos) body [] pos) e) Q E s := by
  obtain ⟨d, o, rfl, hd, pd, i⟩ := r
  have hm := i.dictOf (h.at pd)
  refine wpAny_For (wpAny_Call_items (knd := skd B) hd hm hbase hline (fun Q' q' => ldv h fe lk q') ?_) hs
  have h1 := h.new (p := fun o => o = { cls := .type "dict_items", data := .fields #[.ref d] }) { cls := .type "dict_items", data := .fields #[.ref d] } rfl rfl
  obtain ⟨o1, p1, rfl⟩ := h1.head
  obtain ⟨es, ep, i1, i2, i3, i4, i5⟩ := id i
  have da : ∀ {P' : PM} {own' m' s'}, P.le P' → St B P0 s0 P' L m' own' s' → s'.heap.DictAt (skd B) d kvs ep := fun l' h' => ⟨o, es, h'.at (l' _ _ pd), i1, i2, i3, i4, i5⟩
  refine wpAny_pyIter_items (knd := skd B) ⟨_, p1, rfl, rfl⟩ (da (PM.le.refl _) h1) ?_
  have h2 := (h1.new (p := isII d kvs.length ep 0) _ rfl ⟨.none, .none, rfl⟩).swap.drop
  refine codeAny_forLoop_any (fun j s' => ∃ k, k ≤ kvs.length ∧ j = kvs.length - k ∧ Bt B P0 s0 P L ns _ (isII d kvs.length ep) Inv k s') ?_ kvs.length ⟨0, Nat.zero_le _, rfl, P, vs, own, PM.le.refl _, h0, h2⟩
  rintro j s' ⟨k, hk, rfl, P', vs', own', l, inv, h'⟩
  obtain ⟨oi, pi, ok, ov, rfl⟩ := h'.head
  rcases Nat.lt_or_ge k kvs.length with hlt | hge
  · refine wpAny_pyNext_items_item (knd := skd B) (k := (kvs[k]).1) (v := (kvs[k]).2) pi (da l h') (by simp [hlt]) fun key hp hkey hout ht hz hkp => ?_
    have hx := is_str hkey
    have fr := h'.fresh
    have h3 := h'.chg0 (p' := fun o => o = _) (fun b o hb eb => hkp b o hb eb) hout rfl s'.toks
    have h4 := (h3.add (a := s'.heap.objs.size) (p := isTup [key, (kvs[k]).2]) ht ⟨0, rfl⟩ ⟨fr.1, fr.2.1, fr.2.2.1, fr.2.2.2.1, fun q hq => by
      rcases List.mem_cons.mp hq with rfl | hq
      · exact fr.2.2.2.2 (_, isII d kvs.length ep k) (.head _)
      · exact fr.2.2.2.2 _ (.tail _ hq)⟩)
    obtain ⟨P'', o4, l4, e4, i4', h5⟩ := h4.freeze
    refine wpAny_letOwnedTupleGo_items hout fun hp' hit' hs' => ?_
    have h6 := h5.chg0 (p' := isII d kvs.length ep (k + 1)) hs'.extBut hit' ⟨_, _, rfl⟩ s'.toks
    refine wpAny_noRaise (wpAny_mono (turn _ _ k P' P'' vs' own' _ key _ _ _ (by simp [hlt]) hx l l4 inv ⟨_, o4, rfl, e4, i4'⟩ h6) (fun _ s₂ h₂ => ?_) fun _ _ x => x)
    refine wpAny_noRaise (wpAny_mono h₂ (fun f s₃ h₃ => ?_) fun _ _ x => x)
    cases f with
    | next => exact ⟨kvs.length - (k + 1), by lia, k + 1, hlt, rfl, h₃⟩
    | cont => exact ⟨kvs.length - (k + 1), by lia, k + 1, hlt, rfl, h₃⟩
    | brk => exact h₃
    | ret v => exact h₃
  · obtain rfl : k = kvs.length := Nat.le_antisymm hk hge
    exact wpAny_pyNext_items_end (knd := skd B) hh pi (da l h') (by simp) fun hp he => wpAny_execs_nil (fin P' vs' own' _ l inv (h'.chgDrop he _))
end
open PySem PySem.W PySem.W.X PyProof.Rows PySem.Calls
set_option Elab.async false
set_option maxRecDepth 100000
set_option maxHeartbeats 4000000
section
variable {B : Bs} {P0 P P1 : PM} {s0 s : Shared} {L : Addr} {m : Str → Option Value} {own : List Own} {A : Around} {E : Value → Shared → Prop} {e : Env} {ns : List Str} {vs vs' : List (Option Value)} {M : Model} {kvs : List (Str × Value)} {prog : Program} {w : World}
theorem callB {pos : Pos} {id : String} {x : Expr} {rest : List Expr} {Q : Value → Shared → Prop}
    (h : wpAny M A (spliced (backTo pos (starEach (x :: rest) e))) (fun vs s₁ => wpAny M A (call (.builtin id) vs) Q E s₁) E s)
    (he : starEach (x :: rest) e = (false, eval x e) :: starEach rest e := by rfl) (hplain : (backTo pos (starEach rest e)).any (·.1) = false := by rfl) : wpAny M A (callWith pos (.builtin id) [] (backTo pos (starEach (x :: rest) e)) []) Q E s := by
  rw [he] at h ⊢
  exact callWith_of (P := fun _ => True) (by show ((false || (backTo pos (starEach rest e)).any (·.1)) || false) = false; rw [hplain]; rfl) (fun _ _ => ⟨.machine, .inr (.inl rfl), .now⟩) (evalArgs_plain (wpAny_mono h (fun _ _ x => ⟨trivial, x⟩) fun _ _ x => x))
theorem callT {pos : Pos} {id : String} {x : Expr} {rest : List Expr} {Q : Value → Shared → Prop}
    (h : wpAny M A (spliced (backTo pos (starEach (x :: rest) e))) (fun vs s₁ => wpAny M A (call (.type id) vs) Q E s₁) E s)
    (he : starEach (x :: rest) e = (false, eval x e) :: starEach rest e := by rfl) (hplain : (backTo pos (starEach rest e)).any (·.1) = false := by rfl) : wpAny M A (callWith pos (.type id) [] (backTo pos (starEach (x :: rest) e)) []) Q E s := by
  rw [he] at h ⊢
  exact callWith_of (P := fun _ => True) (by show ((false || (backTo pos (starEach rest e)).any (·.1)) || false) = false; rw [hplain]; rfl) (fun _ _ => ⟨.machine, .inr (.inl rfl), .now⟩) (evalArgs_plain (wpAny_mono h (fun _ _ x => ⟨trivial, x⟩) fun _ _ x => x))
theorem addN {a b : Int} {t u : Tok} {Q : Value → Shared → Prop} (h : St B P0 s0 P L m own s) (q : ∀ t s', St B P0 s0 P L m own s' → Q (.int (a + b) t) s') : wpAny (model prog w) A (binaryOp .Add (.int a t) (.int b u)) Q E s := add_int (q _ _ (h.tok _))
theorem iaddN {a b : Int} {t u : Tok} {Q : Value → Shared → Prop} (h : St B P0 s0 P L m own s) (q : ∀ t s', St B P0 s0 P L m own s' → Q (.int (a + b) t) s') : wpAny (model prog w) A (inplaceOp .Add (.int a t) (.int b u)) Q E s := wpAny_iadd_int (q _ _ (h.tok _))
theorem modN {a b : Int} {t u : Tok} {Q : Value → Shared → Prop} (h : St B P0 s0 P L m own s) (hb : b ≠ 0) (q : ∀ t s', St B P0 s0 P L m own s' → Q (.int (a.fmod b) t) s') : wpAny (model prog w) A (binaryOp .Mod (.int a t) (.int b u)) Q E s := mod_int' hb (q _ _ (h.tok _))
end
open PySem PySem.W PySem.W.X PyProof.Rows PySem.Calls
set_option Elab.async false
set_option maxRecDepth 100000
set_option maxHeartbeats 4000000
/-! zip over two tuples -/
section
variable {prog : Program} {w : World} {A : Around} {E : Value → Shared → Prop} {s : Shared}
theorem tupIter_at {h h' : Heap} {a t i} (x : h.IsTupleIter a t i) (k : ∀ o, h.get? a = some o → h'.get? a = some o) : h'.IsTupleIter a t i := let ⟨o, e, r⟩ := x; ⟨o, k _ e, r⟩
theorem tup_at {h h' : Heap} {a xs} (x : h.IsTuple a xs) (k : ∀ o, h.get? a = some o → h'.get? a = some o) : h'.IsTuple a xs := let ⟨o, e, r⟩ := x; ⟨o, k _ e, r⟩
theorem nextT_item {it t : Addr} {i : Nat} {items : Array Value} {x : Value} {Q : Value → Shared → Prop} (hit : s.heap.IsTupleIter it t i) (ht : s.heap.IsTuple t items) (hx : items[i]? = some x)
    (hQ : ∀ h', h'.IsTupleIter it t (i + 1) → Heap.SameBut it s.heap h' → Q x { s with heap := h' }) : wpAny (model prog w) A (Builtin.SmallTypes.nextOf (.ref it)) Q E s := by
  obtain ⟨o, ho, hc, hd⟩ := id hit
  obtain ⟨ol, hol, _, nl, hdl⟩ := ht
  unfold Builtin.SmallTypes.nextOf
  refine wpAny_bind (wpAny_callSpecial?_slot (name := Str.ofString "__next__") hit.typeIs PySem.F.slot_tuple_iterator_next
    (wpAny_call_entry PySem.F.slot_tuple_iterator_next hit.typeIs PySem.F.entry_tuple_iterator_next ?_ (PySem.F.args_tuple_iterator_next_1 _)))
  show wpAny _ _ (field (.ref it) 0 >>= _) _ _ s
  refine wpAny_bind (wpAny_field ho hd (x := .ref t) rfl ?_)
  show wpAny _ _ (if (Value.ref t == Value.none) = true then _ else _) _ _ s
  rw [if_neg (show ¬ ((Value.ref t == Value.none) = true) from Bool.false_ne_true)]
  show wpAny _ _ (field (.ref it) 1 >>= _) _ _ s
  refine wpAny_bind (wpAny_field ho hd (x := .int i 0) rfl (wpAny_bind (wpAny_seqItems hol hdl ?_)))
  simp only [Int.toNat_natCast, hx]
  refine wpAny_bind (wpAny_setField ho hd (by simp) (wpAny_pure ⟨x, rfl, wpAny_pure (hQ _ ⟨_, Heap.get?_update_self _ ho (Obj.isFreed_of_fields (Obj.data_mapFields hd _)), (Obj.cls_mapFields ..).trans hc, ?_⟩ (Heap.SameBut.update ..))⟩))
  rw [Obj.data_mapFields hd]; simp [rawInt]
theorem nextT_end {it t : Addr} {i : Nat} {items : Array Value} {Q : Value → Shared → Prop} (hh : A.handled = none) (hit : s.heap.IsTupleIter it t i) (ht : s.heap.IsTuple t items) (hx : items[i]? = none)
    (hE : ∀ h' e, Heap.ExtBut it s.heap h' → (∃ o, h'.get? e = some o ∧ o.cls = .type "StopIteration") → E (.ref e) { s with heap := h' }) : wpAny (model prog w) A (Builtin.SmallTypes.nextOf (.ref it)) Q E s := by
  obtain ⟨o, ho, hc, hd⟩ := id hit
  obtain ⟨ol, hol, _, nl, hdl⟩ := ht
  unfold Builtin.SmallTypes.nextOf
  refine wpAny_bind (wpAny_callSpecial?_slot (name := Str.ofString "__next__") hit.typeIs PySem.F.slot_tuple_iterator_next
    (wpAny_call_entry PySem.F.slot_tuple_iterator_next hit.typeIs PySem.F.entry_tuple_iterator_next ?_ (PySem.F.args_tuple_iterator_next_1 _)))
  show wpAny _ _ (field (.ref it) 0 >>= _) _ _ s
  refine wpAny_bind (wpAny_field ho hd (x := .ref t) rfl ?_)
  show wpAny _ _ (if (Value.ref t == Value.none) = true then _ else _) _ _ s
  rw [if_neg (show ¬ ((Value.ref t == Value.none) = true) from Bool.false_ne_true)]
  show wpAny _ _ (field (.ref it) 1 >>= _) _ _ s
  refine wpAny_bind (wpAny_field ho hd (x := .int i 0) rfl (wpAny_bind (wpAny_seqItems hol hdl ?_)))
  simp only [Int.toNat_natCast, hx]
  refine wpAny_bind (wpAny_rule (wpAny_bind (wpAny_setField ho hd (by simp) ?_)))
  show wpAny _ _ (newExc (.type "StopIteration") [] >>= _) _ _ _
  refine wpAny_bind ?_
  simp only [newExc, newTuple]
  refine wpAny_bind (wpAny_newObj_type ?_ (by size_fits))
  refine wpAny_bind (m := firstArgMember _ _) (wpAny_of_eq (a := Value.none) (by first | rfl | (simp only [firstArgMember]; rfl)) (wpAny_newObj_type ?_ (by size_fits)))
  simp only [raiseNew]
  refine wpAny_bind (wpAny_handled ?_)
  first | rw [show A.in1.handled = none from hh] | rw [hh]
  exact wpAny_bind (wpAny_pure (wpAny_throw (hE _ _ (((Heap.SameBut.update ..).extBut.push _).push _) ⟨_, Heap.get?_push_size _ rfl, rfl⟩)))

/-- a zip that stands ahead of its k-th pair -/
structure Zp (h : Heap) (z TI TO i1 i2 l1 l2 : Addr) (f0 : Value) (k : Nat) (xs ys : Array Value) : Prop where
  z : IsZip h z TI TO f0
  ti : IsPair h TI (.ref i1) (.ref i2)
  to : ∃ a b, IsPair h TO a b
  i1 : h.IsTupleIter i1 l1 k
  i2 : h.IsTupleIter i2 l2 k
  l1 : h.IsTuple l1 xs
  l2 : h.IsTuple l2 ys
variable {z TI TO i1 i2 l1 l2 : Addr} {k : Nat} {xs ys : Array Value} {f0 : Value}
theorem Zp.keep {h h' : Heap} (x : Zp h z TI TO i1 i2 l1 l2 f0 k xs ys) (hk : ∀ b ∈ [z, TI, TO, i1, i2, l1, l2], ∀ o, h.get? b = some o → h'.get? b = some o) : Zp h' z TI TO i1 i2 l1 l2 f0 k xs ys :=
  let ⟨a, b, e⟩ := x.to
  ⟨hk z (by simp) _ x.z, hk TI (by simp) _ x.ti, ⟨a, b, hk TO (by simp) _ e⟩, tupIter_at x.i1 fun o e => hk i1 (by simp) o e, tupIter_at x.i2 fun o e => hk i2 (by simp) o e, tup_at x.l1 fun o e => hk l1 (by simp) o e, tup_at x.l2 fun o e => hk l2 (by simp) o e⟩

theorem zipT_item {x y : Value} {Q : Option Value → Shared → Prop} (D : ZipApart z TI TO i1 i2 l1 l2) (Z : Zp s.heap z TI TO i1 i2 l1 l2 .none k xs ys) (hx : xs[k]? = some x) (hy : ys[k]? = some y)
    (hQ : ∀ h', Zp h' z TI TO i1 i2 l1 l2 (rawInt s.heap.objs.size) (k + 1) xs ys → IsPair h' s.heap.objs.size x y → (∀ c o, c ≠ z → c ≠ TO → c ≠ i1 → c ≠ i2 → s.heap.get? c = some o → h'.get? c = some o) → Q (some (.ref s.heap.objs.size)) { s with heap := h' }) :
    wpAny (model prog w) A (pyNext (.ref z)) Q E s := by
  obtain ⟨a, b, hTO⟩ := Z.to
  have hz := Z.z
  have hT : s.TypeIs (.ref z) "zip" := ⟨_, hz, rfl⟩
  unfold pyNext
  refine wpAny_bind (wpAny_attempt (wpAny_callSpecial?_slot (name := Str.ofString "__next__") hT PySem.F.slot_zip_next (wpAny_call_entry PySem.F.slot_zip_next hT PySem.F.entry_zip_next ?_ (PySem.F.args_zip_next_1 _))))
  show wpAny _ _ (field (.ref z) 2 >>= _) _ _ _
  refine wpAny_bind (wpAny_field hz rfl (x := .bool false) rfl ?_)
  show wpAny _ _ (field (.ref z) 3 >>= _) _ _ _
  refine wpAny_bind (wpAny_field hz rfl (x := .ref TI) rfl (wpAny_bind (wpAny_seqItems Z.ti rfl ?_)))
  show wpAny _ _ (Builtin.SmallTypes.ownedTupleIsFree (.ref z) >>= _) _ _ _
  refine wpAny_bind ?_
  unfold Builtin.SmallTypes.ownedTupleIsFree
  refine wpAny_bind (wpAny_field hz rfl (x := .none) rfl (wpAny_pure ?_))
  simp only [if_true]
  refine wpAny_bind (wpAny_rule (wpAny_bind (wpAny_field hz rfl (x := .ref TO) rfl (wpAny_bind (wpAny_setField_rec hz (by simp) fun h₁ hz₁ s1 => ?_)))))
  replace hz₁ : IsZip h₁ z TI TO .ellipsis := hz₁
  refine wpAny_bind ?_
  simp only [List.zipIdx_cons, List.zipIdx_nil, List.forIn_cons, List.forIn_nil]
  refine wpAny_bind (wpAny_bind (wpAny_onRaise ?_))
  show wpAny _ _ (Builtin.SmallTypes.nextOf (.ref i1) >>= _) _ _ _
  refine wpAny_bind (nextT_item (Z.i1.extBut s1.extBut D.i1z) (Z.l1.extBut s1.extBut D.l1z) hx fun h₂ j1 s2 => wpAny_pure ?_)
  have o2 : IsPair h₂ TO a b := s2.extBut _ _ D.TOi1 (s1.extBut _ _ D.TOz hTO)
  refine wpAny_bind (wpAny_seqItems o2 rfl (wpAny_bind (wpAny_updateSeq_pair o2 fun h₃ o3 s3 => ?_)))
  replace o3 : IsPair h₃ TO x b := o3
  refine wpAny_bind (wpAny_letGo (wpAny_pure ?_))
  refine wpAny_bind (wpAny_bind (wpAny_onRaise ?_))
  show wpAny _ _ (Builtin.SmallTypes.nextOf (.ref i2) >>= _) _ _ _
  refine wpAny_bind (nextT_item (((Z.i2.extBut s1.extBut D.i2z).extBut s2.extBut D.i12.symm).extBut s3.extBut D.TOi2.symm) (((Z.l2.extBut s1.extBut D.l2z).extBut s2.extBut D.l2i1).extBut s3.extBut D.l2TO) hy fun h₄ j2 s4 => wpAny_pure ?_)
  have o4 : IsPair h₄ TO x b := s4.extBut _ _ D.TOi2 o3
  refine wpAny_bind (wpAny_seqItems o4 rfl (wpAny_bind (wpAny_updateSeq_pair o4 fun h₅ o5 s5 => ?_)))
  replace o5 : IsPair h₅ TO x y := o5
  refine wpAny_bind (wpAny_letGo (wpAny_pure (wpAny_pure (wpAny_bind (wpAny_seqItems o5 rfl (wpAny_bind (wpAny_newTuple ?_)))))))
  have sz : h₅.objs.size = s.heap.objs.size := by rw [s5.1, s4.1, s3.1, s2.1, s1.1]
  have hz₅ : IsZip h₅ z TI TO .ellipsis := s5.extBut _ _ D.TOz.symm (s4.extBut _ _ D.i2z.symm (s3.extBut _ _ D.TOz.symm (s2.extBut _ _ D.i1z.symm hz₁)))
  have k5 : ∀ c o, c ≠ z → c ≠ TO → c ≠ i1 → c ≠ i2 → s.heap.get? c = some o → h₅.get? c = some o := fun c o c1 c2 c3 c4 e =>
    s5.extBut _ _ c2 (s4.extBut _ _ c4 (s3.extBut _ _ c2 (s2.extBut _ _ c3 (s1.extBut _ _ c1 e))))
  have j1' : h₅.IsTupleIter i1 l1 (k + 1) := ((j1.extBut s3.extBut D.TOi1.symm).extBut s4.extBut D.i12).extBut s5.extBut D.TOi1.symm
  have j2' : h₅.IsTupleIter i2 l2 (k + 1) := j2.extBut s5.extBut D.TOi2.symm
  have zlt : z < h₅.objs.size := Heap.lt_size hz₅
  show wpAny _ _ (Builtin.SmallTypes.ownedTupleHandOut (.ref z) (.ref h₅.objs.size) >>= _) _ _ _
  refine wpAny_bind ?_
  unfold Builtin.SmallTypes.ownedTupleHandOut
  have hz₆ : IsZip (h₅.push { cls := .type "tuple", data := .seq #[x, y] }) z TI TO .ellipsis := Heap.get?_push_of_some _ hz₅
  refine wpAny_bind (wpAny_setField_rec hz₆ (by simp) fun h₇ hz₇ s7 => ?_)
  replace hz₇ : IsZip h₇ z TI TO (rawInt h₅.objs.size) := hz₇
  refine wpAny_setField_rec hz₇ (by simp) fun h₈ hz₈ s8 => ?_
  replace hz₈ : IsZip h₈ z TI TO (rawInt h₅.objs.size) := hz₈
  have up : ∀ c o, c ≠ z → h₅.get? c = some o → h₈.get? c = some o := fun c o c1 e => s8.extBut _ _ c1 (s7.extBut _ _ c1 (Heap.get?_push_of_some _ e))
  have t8 : IsPair h₈ h₅.objs.size x y := s8.extBut _ _ (Nat.ne_of_gt zlt) (s7.extBut _ _ (Nat.ne_of_gt zlt) (Heap.get?_push_size _ rfl))
  rw [sz] at hz₈ t8
  refine wpAny_pure ⟨_, rfl, wpAny_pure ?_⟩
  show Q (some (.ref h₅.objs.size)) _
  rw [sz]
  refine hQ h₈ ⟨hz₈, up _ _ D.TIz (k5 _ _ D.TIz D.TITO D.TIi1 D.TIi2 Z.ti), ⟨_, _, up _ _ D.TOz o5⟩, tupIter_at j1' fun o e => up _ o D.i1z e, tupIter_at j2' fun o e => up _ o D.i2z e,
    tup_at Z.l1 fun o e => up _ o D.l1z (k5 _ o D.l1z D.l1TO D.l1i1 D.l1i2 e), tup_at Z.l2 fun o e => up _ o D.l2z (k5 _ o D.l2z D.l2TO D.l2i1 D.l2i2 e)⟩ t8 fun c o c1 c2 c3 c4 e => up c o c1 (k5 c o c1 c2 c3 c4 e)

theorem zipT_end {Q : Option Value → Shared → Prop} (hh : A.handled = none) (D : ZipApart z TI TO i1 i2 l1 l2) (Z : Zp s.heap z TI TO i1 i2 l1 l2 .none k xs ys) (hx : xs[k]? = none)
    (hQ : ∀ h', (∀ c o, c ≠ z → c ≠ TO → c ≠ i1 → c ≠ i2 → s.heap.get? c = some o → h'.get? c = some o) → Q none { s with heap := h' }) : wpAny (model prog w) A (pyNext (.ref z)) Q E s := by
  obtain ⟨a, b, hTO⟩ := Z.to
  have hz := Z.z
  have hT : s.TypeIs (.ref z) "zip" := ⟨_, hz, rfl⟩
  unfold pyNext
  refine wpAny_bind (wpAny_attempt (wpAny_callSpecial?_slot (name := Str.ofString "__next__") hT PySem.F.slot_zip_next (wpAny_call_entry PySem.F.slot_zip_next hT PySem.F.entry_zip_next ?_ (PySem.F.args_zip_next_1 _))))
  show wpAny _ _ (field (.ref z) 2 >>= _) _ _ _
  refine wpAny_bind (wpAny_field hz rfl (x := .bool false) rfl ?_)
  show wpAny _ _ (field (.ref z) 3 >>= _) _ _ _
  refine wpAny_bind (wpAny_field hz rfl (x := .ref TI) rfl (wpAny_bind (wpAny_seqItems Z.ti rfl ?_)))
  show wpAny _ _ (Builtin.SmallTypes.ownedTupleIsFree (.ref z) >>= _) _ _ _
  refine wpAny_bind ?_
  unfold Builtin.SmallTypes.ownedTupleIsFree
  refine wpAny_bind (wpAny_field hz rfl (x := .none) rfl (wpAny_pure ?_))
  simp only [if_true]
  refine wpAny_bind (wpAny_rule (wpAny_bind (wpAny_field hz rfl (x := .ref TO) rfl (wpAny_bind (wpAny_setField_rec hz (by simp) fun h₁ hz₁ s1 => ?_)))))
  replace hz₁ : IsZip h₁ z TI TO .ellipsis := hz₁
  refine wpAny_bind ?_
  simp only [List.zipIdx_cons, List.zipIdx_nil, List.forIn_cons, List.forIn_nil]
  refine wpAny_bind (wpAny_bind (wpAny_onRaise ?_))
  show wpAny _ _ (Builtin.SmallTypes.nextOf (.ref i1) >>= _) _ _ _
  refine wpAny_bind (nextT_end hh (Z.i1.extBut s1.extBut D.i1z) (Z.l1.extBut s1.extBut D.l1z) hx fun h₂ e s2 he => ?_)
  obtain ⟨oe, hoe, hce⟩ := he
  have hz₂ : IsZip h₂ z TI TO .ellipsis := s2 _ _ D.i1z.symm hz₁
  have hez : e ≠ z := fun x => by subst x; rw [hz₂] at hoe; cases hoe; simp at hce
  refine wpAny_setField_rec hz₂ (by simp) fun h₃ _ s3 => ?_
  refine wpAny_bind (wpAny_isInstance (T := "StopIteration") (b := true) ⟨oe, s3.extBut _ _ hez hoe, hce⟩ isSubtype_stop ?_)
  exact wpAny_pure (hQ _ fun c o c1 _ c3 _ x => s3.extBut _ _ c1 (s2 _ _ c3 (s1.extBut _ _ c1 x)))

theorem walksZ (hh : A.handled = none) (D : ZipApart z TI TO i1 i2 l1 l2) (hl : xs.size = ys.size) :
    WalksU prog w A z [z, TI, TO, i1, i2, l1, l2] [z, TO, i1, i2] xs.size (fun i vals => ∃ x y, xs[i]? = some x ∧ ys[i]? = some y ∧ vals = #[x, y]) (fun i h => Zp h z TI TO i1 i2 l1 l2 .none i xs ys)
      (fun i T h => Zp h z TI TO i1 i2 l1 l2 (rawInt T) (i + 1) xs ys ∧ T ∉ [z, TO, i1, i2]) where
  sub := fun c hc => by simp at hc ⊢; rcases hc with rfl | rfl | rfl | rfl <;> simp
  frame := fun i h h' Z hk => Z.keep hk
  item := fun i s Q E hi Z hQ => by
    have hx : xs[i]? = some xs[i] := Array.getElem?_eq_getElem hi
    have hy : ys[i]? = some (ys[i]'(hl ▸ hi)) := Array.getElem?_eq_getElem _
    refine zipT_item D Z hx hy fun h' Z' t' hk => ?_
    obtain ⟨a, b, hTO⟩ := Z.to
    obtain ⟨_, e1, _⟩ := Z.i1
    obtain ⟨_, e2, _⟩ := Z.i2
    have lt : ∀ {c o}, s.heap.get? c = some o → s.heap.objs.size ≠ c := fun e => Nat.ne_of_gt (Heap.lt_size e)
    exact hQ _ _ h' s.toks ⟨_, _, hx, hy, rfl⟩ ⟨_, t', rfl, _, rfl⟩ ⟨Z', by simp [lt Z.z, lt hTO, lt e1, lt e2]⟩ fun c o hc e => hk c o (fun x => hc (by simp [x])) (fun x => hc (by simp [x])) (fun x => hc (by simp [x])) (fun x => hc (by simp [x])) e
  go := fun elts k pos i T s Q E hm hQ => by
    refine wpAny_letOwnedTupleGo_zip hm.1.z fun h' hz' s' => hQ h' ?_ fun c o hc e => s'.extBut _ _ (fun x => hc (by simp [x])) e
    obtain ⟨a, b, hTO⟩ := hm.1.to
    exact ⟨hz', s'.extBut _ _ D.TIz hm.1.ti, ⟨a, b, s'.extBut _ _ D.TOz hTO⟩, hm.1.i1.extBut s'.extBut D.i1z, hm.1.i2.extBut s'.extBut D.i2z, hm.1.l1.extBut s'.extBut D.l1z, hm.1.l2.extBut s'.extBut D.l2z⟩
  apart := fun i T h hm => hm.2
  done := fun s Q E Z hQ => zipT_end hh D Z (Array.getElem?_eq_none (Nat.le_refl _)) fun h' hk => hQ h' s.toks fun c o hc e =>
    hk c o (fun x => hc (by simp [x])) (fun x => hc (by simp [x])) (fun x => hc (by simp [x])) (fun x => hc (by simp [x])) e
  self := fun i s Q E Z hQ => wpAny_pyIter_zip Z.z hQ
end
open PySem PySem.W PySem.W.X PyProof.Rows PySem.Calls
set_option Elab.async false
set_option maxRecDepth 100000
set_option maxHeartbeats 4000000
noncomputable abbrev zq1 (h : Heap) (l1 : Addr) : Heap := h.push { cls := .type "tuple_iterator", data := .fields #[.ref l1, .int 0 0] }
noncomputable abbrev zq2 (h : Heap) (l1 l2 : Addr) : Heap := (zq1 h l1).push { cls := .type "tuple_iterator", data := .fields #[.ref l2, .int 0 0] }
noncomputable abbrev zq3 (h : Heap) (l1 l2 : Addr) : Heap := (zq2 h l1 l2).push { cls := .type "tuple", data := .seq #[.ref h.objs.size, .ref (zq1 h l1).objs.size] }
noncomputable abbrev zq4 (h : Heap) (l1 l2 : Addr) : Heap := (zq3 h l1 l2).push { cls := .type "tuple", data := .seq #[.none, .none] }
noncomputable abbrev zq5 (h : Heap) (l1 l2 : Addr) : Heap := (zq4 h l1 l2).push { cls := .type "zip", data := .fields #[.none, .bool false, .bool false, .ref (zq2 h l1 l2).objs.size, .ref (zq3 h l1 l2).objs.size] }
theorem zipT_new (l1 l2 : Addr) (xs ys : Array Value) : Meets (Builtin.«zip.__new__» ⟨[.type "zip", .ref l1, .ref l2], []⟩) (fun _ R s => s.heap.IsTuple l1 xs ∧ s.heap.IsTuple l2 ys ∧
    R (.ok (.ret (.ref (zq4 s.heap l1 l2).objs.size))) { s with heap := zq5 s.heap l1 l2 }) :=
  .of_wp fun prog w A R s h => by
    obtain ⟨hp, g, d, tk, os⟩ := s; obtain ⟨hl1, hl2, h⟩ := h
    have hsub := sub_zip
    have hL1 : Heap.IsTuple (Shared.heap ⟨hp, g, d, tk, os⟩) l1 xs := hl1
    have hL2 : Heap.IsTuple (Shared.heap ⟨hp.push { cls := .type "tuple_iterator", data := .fields #[.ref l1, .int 0 0] }, g, d, tk, os⟩) l2 ys := Heap.IsTuple.push hl2 _
    wp_walk using wpAny_pyIter_tuple hL1, wpAny_pyIter_tuple hL2
    exact ⟨_, rfl, h⟩
section
variable {prog : Program} {w : World} {A : Around} {E : Value → Shared → Prop} {s : Shared}
theorem callZipT {l1 l2 : Addr} {xs ys : Array Value} {Q : Value → Shared → Prop} (hl1 : s.heap.IsTuple l1 xs) (hl2 : s.heap.IsTuple l2 ys)
    (h : ∀ h' z TI TO i1 i2, ZipApart z TI TO i1 i2 l1 l2 → Zp h' z TI TO i1 i2 l1 l2 .none 0 xs ys → (∀ b ∈ [z, TI, TO, i1, i2], s.heap.objs.size ≤ b) → (∀ c o, s.heap.get? c = some o → h'.get? c = some o) → Q (.ref z) { s with heap := h' }) :
    wpAny (model prog w) A (call (.type "zip") [.ref l1, .ref l2]) Q E s := by
  have a1 : l1 < s.heap.objs.size := by obtain ⟨_, e, _⟩ := hl1; exact Heap.lt_size e
  have a2 : l2 < s.heap.objs.size := by obtain ⟨_, e, _⟩ := hl2; exact Heap.lt_size e
  refine callType_new PySem.F.called_zip (by decide) (PySem.F.typeCall_zip_2 _ _) (PySem.F.newCall_zip_2 _ _) (fun obj => PySem.F.args_object_init_3 obj _ _) PySem.F.entry_zip_new
    (zipT_new l1 l2 xs ys) ⟨hl1, hl2, ?_⟩
  have z1 : (zq1 s.heap l1).objs.size = s.heap.objs.size + 1 := Heap.size_push ..
  have z2 : (zq2 s.heap l1 l2).objs.size = s.heap.objs.size + 2 := by rw [Heap.size_push, z1]
  have z3 : (zq3 s.heap l1 l2).objs.size = s.heap.objs.size + 3 := by rw [Heap.size_push, z2]
  have z4 : (zq4 s.heap l1 l2).objs.size = s.heap.objs.size + 4 := by rw [Heap.size_push, z3]
  have g5 : (zq5 s.heap l1 l2).get? (zq4 s.heap l1 l2).objs.size = some _ := Heap.get?_push_size _ rfl
  have g4 : (zq5 s.heap l1 l2).get? (zq3 s.heap l1 l2).objs.size = some _ := Heap.get?_push_of_some _ (Heap.get?_push_size _ rfl)
  have g3 : (zq5 s.heap l1 l2).get? (zq2 s.heap l1 l2).objs.size = some _ := Heap.get?_push_of_some _ (Heap.get?_push_of_some _ (Heap.get?_push_size _ rfl))
  have g2 : (zq5 s.heap l1 l2).get? (zq1 s.heap l1).objs.size = some _ := Heap.get?_push_of_some _ (Heap.get?_push_of_some _ (Heap.get?_push_of_some _ (Heap.get?_push_size _ rfl)))
  have g1 : (zq5 s.heap l1 l2).get? s.heap.objs.size = some _ := Heap.get?_push_of_some _ (Heap.get?_push_of_some _ (Heap.get?_push_of_some _ (Heap.get?_push_of_some _ (Heap.get?_push_size _ rfl))))
  have kp : ∀ c o, s.heap.get? c = some o → (zq5 s.heap l1 l2).get? c = some o := fun c o x =>
    Heap.get?_push_of_some _ (Heap.get?_push_of_some _ (Heap.get?_push_of_some _ (Heap.get?_push_of_some _ (Heap.get?_push_of_some _ x))))
  show _ ∧ _
  rw [z2, z3, z4] at g5
  rw [z1, z2] at g3
  rw [z3] at g4
  rw [z1] at g2
  rw [z4]
  refine ⟨⟨_, g5, rfl⟩, h _ _ _ _ _ _ (zipApart_new a1 a2) ⟨g5, g3, ⟨_, _, g4⟩, ⟨_, g1, rfl, rfl⟩, ⟨_, g2, rfl, rfl⟩, tup_at hl1 fun o e => kp _ o e, tup_at hl2 fun o e => kp _ o e⟩ (fun b hb => ?_) kp⟩
  simp only [List.mem_cons, List.not_mem_nil, or_false] at hb
  rcases hb with rfl | rfl | rfl | rfl | rfl <;> lia
end
/-! what is new is frozen; a code table may have grown -/
noncomputable def extP (P : PM) (s : Shared) (h : Heap) : PM := fun a => match s.heap.get? a with
  | some _ => P a
  | none => h.get? a
section
variable {B : Bs} {P0 P P1 : PM} {s0 s : Shared} {L : Addr} {m : Str → Option Value} {own : List Own} {A : Around} {E : Value → Shared → Prop} {e : Env} {ns : List Str} {vs vs' : List (Option Value)} {kvs : List (Str × Value)} {prog : Program} {w : World}
theorem St.growT (h : St B P0 s0 P L m own s) {s' : Shared} (t : Addr) (ht : t ∈ [58, 154]) (k : ∀ b o, b ≠ t → s.heap.get? b = some o → s'.heap.get? b = some o) (tb : TabOk (extP P s s'.heap) s' t) (os : s'.os = s.os) (gb : AllBare s'.gens) :
    St B P0 s0 (extP P s s'.heap) L m own s' ∧ P.le (extP P s s'.heap) ∧ ∀ a o, s.heap.get? a = none → s'.heap.get? a = some o → extP P s s'.heap a = some o := by
  have htt : t ∈ tabs := by simp only [tabs, List.mem_cons, List.not_mem_nil, or_false] at ht ⊢; rcases ht with rfl | rfl <;> simp
  have h72 : (72 : Addr) ≠ t := by simp only [List.mem_cons, List.not_mem_nil, or_false] at ht; rcases ht with rfl | rfl <;> decide
  have l : P.le (extP P s s'.heap) := fun a o e => by simp only [extP, h.wd.fz a o e]; exact e
  have old : ∀ a o, s.heap.get? a = some o → extP P s s'.heap a = P a := fun a o e => by simp only [extP, e]
  have kx : ∀ a o, extP P s s'.heap a = some o → s'.heap.get? a = some o := fun a o e => by
    unfold extP at e
    split at e
    · exact k a o (fun q => by subst q; rw [h.wd.nt a htt] at e; cases e) (h.wd.fz a o e)
    · exact e
  obtain ⟨oL, es, ep, eL, r⟩ := h.ns
  refine ⟨⟨⟨kx, fun a o e ha => l _ _ (h.wd.bs a o e ha), fun a ha => ?_, fun t' ht' => ?_, os.trans h.wd.os, gb, k 72 _ h72 h.wd.t72⟩, h.le.trans l, fun a o e => ?_,
    fun a o e ha => k a o (fun q => ha (q ▸ htt)) (h.kp a o e ha), ⟨oL, es, ep, k _ _ (fun q => h.lf.2.2 (q ▸ htt)) eL, r⟩, ⟨(old _ _ eL).trans h.lf.1, h.lf.2⟩, fun q hq => ?_, h.nd⟩, l, fun a o e e' => by simp only [extP, e]; exact e'⟩
  · obtain ⟨o', e⟩ := h.wd.tabAt ha
    rw [old _ _ e]; exact h.wd.nt a ha
  · by_cases q : t' = t
    · subst q; exact tb
    · obtain ⟨ps, e, tr, hc⟩ := h.wd.tb t' ht'
      exact ⟨ps, k _ _ q e, tr, fun p c' e' => let ⟨a, e1, e2⟩ := hc p c' e'; ⟨a, e1, e2.mono l⟩⟩
  · unfold extP at e
    split at e
    · exact h.nw a o e
    · rename_i z
      right
      cases q : s0.heap.get? a with
      | none => rfl
      | some o' =>
        by_cases ha : a ∈ tabs
        · obtain ⟨o2, e2⟩ := h.wd.tabAt ha
          rw [e2] at z; cases z
        · rw [h.kp a o' q ha] at z; cases z
  · obtain ⟨⟨o, e, z⟩, r1, r2, r3, r4⟩ := h.own q hq
    exact ⟨⟨o, k _ _ (fun q => r4 (q ▸ htt)) e, z⟩, r1, (old _ _ e).trans r2, r3, r4⟩
/-- all that is new is frozen -/
theorem St.grow (h : St B P0 s0 P L m own s) {s' : Shared} (k : ∀ b o, s.heap.get? b = some o → s'.heap.get? b = some o) (os : s'.os = s.os) (gb : AllBare s'.gens) :
    St B P0 s0 (extP P s s'.heap) L m own s' ∧ P.le (extP P s s'.heap) ∧ ∀ a o, s.heap.get? a = none → s'.heap.get? a = some o → extP P s s'.heap a = some o := by
  refine h.growT 58 (by simp) (fun b o _ e => k b o e) ?_ os gb
  obtain ⟨ps, e, tr, hc⟩ := h.wd.tb 58 (by simp)
  have l : P.le (extP P s s'.heap) := fun a o e => by simp only [extP, h.wd.fz a o e]; exact e
  exact ⟨ps, k _ _ e, tr, fun p c' e' => let ⟨a, e1, e2⟩ := hc p c' e'; ⟨a, e1, e2.mono l⟩⟩
end
open PySem PySem.W PySem.W.X PyProof.Rows PySem.Calls
set_option Elab.async false
set_option maxRecDepth 100000
set_option maxHeartbeats 4000000
section
variable {B : Bs} {P0 P P1 : PM} {s0 s : Shared} {L : Addr} {m : Str → Option Value} {own : List Own} {A : Around} {E : Value → Shared → Prop} {e : Env} {ns : List Str} {vs vs' : List (Option Value)} {kvs : List (Str × Value)} {prog : Program} {w : World}
theorem Wd.hd (h : Wd B P s) (ok : Ok B) {c t : Addr} (hc : codeHdIn (hz.heap_157 B.w.params) c t = true) (ht : c ∉ tabs) : CodeHd s.heap c t :=
  let ⟨o, vs, file, tf, flags, tg, inF, text, tt, e1, r⟩ := codeHd_of_K ok.X hc
  ⟨o, vs, file, tf, flags, tg, inF, text, tt, h.base e1 ht, r⟩
theorem TriplesOk.among_snoc {p pos : Pos} {c c' : Value} : ∀ (l : List Value), TriplesOk l → codeAmong p (l ++ [rawInt pos.line, rawInt pos.col, c]) = some c' → codeAmong p l = some c' ∨ c' = c := by
  intro l h
  fun_induction TriplesOk l with
  | case1 =>
    intro q
    simp only [List.nil_append, rawInt, codeAmong] at q
    split at q
    · exact .inr (Option.some.inj q).symm
    · cases q
  | case2 a t b u x rest ih =>
    intro q
    simp only [List.cons_append, codeAmong] at q ⊢
    split at q
    · rename_i hc; rw [if_pos hc]; exact .inl q
    · rename_i hc; rw [if_neg hc]; exact ih h q
  | case3 l h1 h2 => exact h.elim

theorem passing_all (n : Nat) : passing (fun _ => true) n 0 = List.range n := by
  unfold passing
  rw [List.drop_zero]
  exact List.filter_eq_self.mpr fun _ _ => rfl
/-- tuple(i + j for i, j in zip(a, b)) -/
theorem genTup {iter : Expr} {p1 p2 p3 pa pb pt pos : Pos} {kt : Nat} {scope : Scope} {Q : Value → Shared → Prop} {l1 l2 : Addr} {xs ys : List Value} {is js : List Int} (ok : Ok B) (h : St B P0 s0 P L m own s) (fe : FE e L ns) (hh : A.handled = none) (hroom : A.depth < recursionLimit)
    (hcode : e.code = .ref 62) (hq : e.qual ++ "<genexpr>" = qualOf 58) (hco : scope.isCoroutine = false) (hclos : closureFor scope e = pure []) (hcell : ∀ y ∈ scope.names, y.2 ≠ .cell) (h0 : scope.names.lookup (".0" : Str) = some NameKind.local)
    (hxa : scope.names.lookup ("i" : Str) = some .local) (hxb : scope.names.lookup ("j" : Str) = some .local) (hkind : scope.kind = .function) (hs : ∀ x, genFold iter e x = pure x)
    (hl : xs.length = ys.length) (hn : xs.length ≤ sizeLine) (hi : ∀ (k : Nat) v, xs[k]? = some v → ∃ i t, is[k]? = some i ∧ v = .int i t) (hj : ∀ (k : Nat) v, ys[k]? = some v → ∃ i t, js[k]? = some i ∧ v = .int i t)
    (hit : ∀ {Q' : Value → Shared → Prop}, (∀ h' z TI TO i1 i2 tk, ZipApart z TI TO i1 i2 l1 l2 → Zp h' z TI TO i1 i2 l1 l2 .none 0 xs.toArray ys.toArray → (∀ b ∈ [z, TI, TO, i1, i2], s.heap.objs.size ≤ b) → (∀ c o, s.heap.get? c = some o → h'.get? c = some o) → Q' (.ref z) { s with heap := h', toks := tk }) → wpAny (mdl B) A (eval iter e) Q' E s)
    (q : ∀ a s', (∀ {Q' : Value → Shared → Prop} {E' : Value → Shared → Prop}, (∀ P' v us s'', P.le P' → us.length = xs.length → (∀ (k : Nat) u, us[k]? = some u → ∃ i j t, is[k]? = some i ∧ js[k]? = some j ∧ u = .int (i + j) t) → RT P' v us → St B P0 s0 P' L m own s'' → Q' v s'') →
      wpAny (mdl B) A (call (.type "tuple") [.ref a]) Q' E' s') → Q (.ref a) s') :
    wpAny (mdl B) A (eval (.GeneratorExp (.BinOp (.Name "i" p1) .Add (.Name "j" p2) p3) [⟨.Tuple [.Name "i" pa, .Name "j" pb] kt pt, iter, [], 0⟩] scope pos) e) Q E s := by
  have hcd : codeHdIn (hz.heap_157 B.w.params) 62 58 = true := by kernel_rfl
  have C0 := h.wd.hd ok hcd (by decide)
  obtain ⟨ps, et, tr, hc⟩ := h.wd.tb 58 (by simp)
  have lim := h.wd.lim ok
  obtain ⟨bm, ob, b1, b2, b3, b4, b5, b6, b7⟩ := ok.bm
  have g0 := h.wd.nsb ok.g (by decide)
  have o0 := h.wd.base b4 b3
  refine wpAny_GeneratorExp_walksQTD hh hco hclos hcell h0 hxa hxb (by decide) hkind hroom (hit fun h' z TI TO i1 i2 tk D Z fr kp => ?_) hs
  have W : ∀ A' : Around, A'.handled = none → WalksU prg B.w A' z [z, TI, TO, i1, i2, l1, l2] [z, TO, i1, i2] xs.toArray.size (fun i vals => ∃ x y, xs.toArray[i]? = some x ∧ ys.toArray[i]? = some y ∧ vals = #[x, y]) (fun i h => Zp h z TI TO i1 i2 l1 l2 .none i xs.toArray ys.toArray)
      (fun i T h => Zp h z TI TO i1 i2 l1 l2 (rawInt T) (i + 1) xs.toArray ys.toArray ∧ T ∉ [z, TO, i1, i2]) := fun A' hA => walksZ hA D (by simpa using hl)
  refine (W A hh).self 0 _ _ _ Z ?_
  have frw : ∀ b ∈ [z, TO, i1, i2], s.heap.objs.size ≤ b := fun b hb => fr b (by simp only [List.mem_cons, List.not_mem_nil, or_false] at hb ⊢; rcases hb with rfl | rfl | rfl | rfl <;> simp)
  have hcw : cStatics ∉ [z, TO, i1, i2] := fun hm => by
    obtain ⟨_, hns, _⟩ := lim
    exact absurd (frw _ hm) (Nat.not_le.mpr hns.lt)
  have hcl58 : (58 : Addr) ∉ [z, TI, TO, i1, i2, l1, l2] := fun hm => by
    have hlt := Heap.lt_size et
    by_cases hm5 : (58 : Addr) ∈ [z, TI, TO, i1, i2]
    · exact absurd (fr _ hm5) (Nat.not_le.mpr hlt)
    · have e58 := kp _ _ et
      have : (58 : Addr) = l1 ∨ (58 : Addr) = l2 := by
        simp only [List.mem_cons, List.not_mem_nil, or_false, not_or] at hm hm5
        rcases hm with hm | hm | hm | hm | hm | hm | hm
        · exact absurd hm hm5.1
        · exact absurd hm hm5.2.1
        · exact absurd hm hm5.2.2.1
        · exact absurd hm hm5.2.2.2.1
        · exact absurd hm hm5.2.2.2.2
        · exact .inl hm
        · exact .inr hm
      rcases this with hm | hm
      · obtain ⟨o, eo, co, _⟩ := Z.l1
        rw [← hm, e58] at eo; cases eo; cases co
      · obtain ⟨o, eo, co, _⟩ := Z.l2
        rw [← hm, e58] at eo; cases eo; cases co
  have fin : ∀ (cv : Value) (h₃ : Heap) (tk₃ : Nat), (∀ b o, b ≠ 58 → h'.get? b = some o → h₃.get? b = some o) → h'.objs.size ≤ h₃.objs.size →
      (∀ s'' : Shared, (∀ b o, s.heap.get? b = some o → b ≠ 58 → s''.heap.get? b = some o) → (∀ b o, h₃.get? b = some o → b ∉ [z, TO, i1, i2] → s''.heap.get? b = some o) → TabOk (extP P s s''.heap) s'' 58) →
      wpAny (mdl B) A (builtinsFor e.globals e.builtins) (fun bi s₄ => ∃ I fp wr n₀ Pt St₀ Mid pz F, Value.ref z = .ref I ∧ (∀ A' : Around, A'.handled = none → WalksU prg B.w A' I fp wr n₀ Pt St₀ Mid) ∧ (∀ i vals, Pt i vals → ∃ va vb, vals = #[va, vb]) ∧ St₀ 0 s₄.heap ∧ (∀ b ∈ fp, b < s₄.heap.objs.size) ∧ s₄.heap.NoLimit ∧ cStatics ∉ wr ∧
          (∀ href : Heap, (∀ b o, s₄.heap.get? b = some o → href.get? b = some o) →
            QuietGenTD prg B.w (genEnv scope [] s₄.heap.objs.size cv bi e) "i" "j" [] (.BinOp (.Name "i" p1) .Add (.Name "j" p2) p3) (List.range s₄.heap.objs.size) wr Pt pz F href (A.depth + 1) (A.units + 8)) ∧
          (∀ a h₅ tk gs, gs.bare = true → s₄.heap.objs.size < a → h₅.objs.size = a + 1 → (∀ b o, s₄.heap.get? b = some o → h₅.get? b = some o) →
            WalksS prg B.w A.in4 a (a :: s₄.heap.objs.size :: List.range s₄.heap.objs.size) (s₄.heap.objs.size :: wr) (GenOnlyQ s₄.gens.size) (passing pz n₀ 0).length
              (fun j y => ∃ i, (passing pz n₀ 0)[j]? = some i ∧ F i y) (GenAt prg B.w A.in4 a s₄.gens.size s₄.heap.objs.size (List.range s₄.heap.objs.size) wr pz n₀ F) →
            GenAt prg B.w A.in4 a s₄.gens.size s₄.heap.objs.size (List.range s₄.heap.objs.size) wr pz n₀ F 0 { s₄ with gens := s₄.gens.push gs, toks := tk, heap := h₅ } →
            Q (.ref a) { s₄ with gens := s₄.gens.push gs, toks := tk, heap := h₅ })) E { s with heap := h₃, toks := tk₃ } := by
    intro cv h₃ tk₃ k₃ sz₃ tb₃
    have k3 : ∀ b o, b ≠ 58 → s.heap.get? b = some o → h₃.get? b = some o := fun b o hb e => k₃ b o hb (kp b o e)
    have Z₃ := Z.keep (h' := h₃) fun b hb o e => k₃ b o (fun q => hcl58 (q ▸ hb)) e
    have bm58 : bm ≠ 58 := fun q => b3 (q ▸ (by decide))
    refine wpAny_builtinsFor (bm := bm) (o := ob) (m := B.mg) ?_ b1 b2 (k3 _ _ bm58 o0) b5 b6 b7 ?_
    · obtain ⟨o, es, ep, x, r⟩ := g0
      rw [fe.glb]
      exact ⟨o, es, ep, k3 _ _ (by decide) x, r⟩
    have fp3 : ∀ b ∈ [z, TI, TO, i1, i2, l1, l2], b < h₃.objs.size := fun b hb => by
      obtain ⟨a', b', hTO⟩ := Z₃.to
      obtain ⟨_, e1, _⟩ := Z₃.i1
      obtain ⟨_, e2, _⟩ := Z₃.i2
      obtain ⟨_, e3, _⟩ := Z₃.l1
      obtain ⟨_, e4, _⟩ := Z₃.l2
      simp only [List.mem_cons, List.not_mem_nil, or_false] at hb
      rcases hb with rfl | rfl | rfl | rfl | rfl | rfl | rfl
      · exact Heap.lt_size Z₃.z
      · exact Heap.lt_size Z₃.ti
      · exact Heap.lt_size hTO
      · exact Heap.lt_size e1
      · exact Heap.lt_size e2
      · exact Heap.lt_size e3
      · exact Heap.lt_size e4
    have lim3 : h₃.NoLimit := by
      obtain ⟨mc, ⟨o, es, ep, x, r⟩, r'⟩ := lim
      exact ⟨mc, ⟨o, es, ep, k3 _ _ (by decide) x, r⟩, r'⟩
    refine ⟨z, _, _, _, _, _, _, fun _ => true, fun i y => ∃ a b t, is[i]? = some a ∧ js[i]? = some b ∧ y = .int (a + b) t, rfl, W, (fun i vals hv => by obtain ⟨x, y, _, _, e⟩ := hv; exact ⟨x, y, e⟩), Z₃, fp3, lim3, hcw, fun href _ => ⟨?_, ?_⟩, fun a h₅ tk gs hgb hag hsz₅ hk₅ WS hat => ?_⟩
    · intro A' E' i va vb s₂ m₂ hA _ _ hP hN ha hb hk
      simp only [List.forIn_nil]
      exact wpAny_pure ⟨rfl, _, _, rfl, fun _ _ e => e⟩
    · intro A' E' i va vb s₂ m₂ hA _ _ hP hp hN ha hb hk
      obtain ⟨x, y, ex, ey, exy⟩ := hP
      obtain ⟨e1, e2⟩ : va = x ∧ vb = y := by simpa using congrArg Array.toList exy
      subst e1 e2
      obtain ⟨n1, t1, en1, rfl⟩ := hi i va (by simpa using ex)
      obtain ⟨n2, t2, en2, rfl⟩ := hj i vb (by simpa using ey)
      refine wpAny_BinOp (wpAny_Name (wpAny_loadName_local (by simp [genEnv, hkind]) (by exact hxa) hN ha ?_) (by decide))
      refine wpAny_Name (wpAny_loadName_local (by simp [genEnv, hkind]) (by exact hxb) hN hb ?_) (by decide)
      exact add_int ⟨⟨n1, n2, _, en1, en2, rfl⟩, _, _, rfl, fun _ _ e => e⟩
    · refine q _ _ fun {Q' E'} q' => ?_
      have hlen : (passing (fun _ => true) xs.toArray.size 0).length = xs.length := by rw [passing_all]; simp
      refine call_tuple_gen (hsz := by rw [hlen]; exact hn) WS.in4_3 (fun i s' st => st.1.typeIs) hat ?_ (List.mem_cons_self ..) fun s' acc hm hacc => ?_
      · intro b hb
        show b < h₅.objs.size
        rw [hsz₅]
        rcases List.mem_cons.mp hb with rfl | hb
        · exact Nat.lt_succ_self _
        · rcases List.mem_cons.mp hb with rfl | hb
          · exact Nat.lt_succ_of_lt hag
          · exact Nat.lt_succ_of_lt (Nat.lt_trans (List.mem_range.mp hb) hag)
      · have hszh : s.heap.objs.size ≤ h₃.objs.size := by
          have : s.heap.objs.size ≤ h'.objs.size := by
            rcases Nat.lt_or_ge h'.objs.size s.heap.objs.size with hlt | hge
            · have := fr z (by simp)
              exact absurd (Nat.lt_of_le_of_lt this (Heap.lt_size Z.z)) (Nat.not_lt.mpr (Nat.le_of_lt hlt))
            · exact hge
          exact Nat.le_trans this sz₃
        have k5 : ∀ b o, h₃.get? b = some o → b ∉ [z, TO, i1, i2] → s'.heap.get? b = some o := fun b o e hb => hm.heap b o (fun hx => by
          rcases List.mem_cons.mp hx with q | hx
          · have hl3 := Heap.lt_size e
            rw [q] at hl3
            exact Nat.lt_irrefl _ hl3
          · exact hb hx) (hk₅ b o e)
        have kS : ∀ b o, s.heap.get? b = some o → b ≠ 58 → s'.heap.get? b = some o := fun b o e hb => k5 b o (k3 b o hb e) fun hx => absurd (frw b hx) (Nat.not_le.mpr (Heap.lt_size e))
        have tbS := tb₃ { s' with heap := s'.heap.push { cls := .type "tuple", data := .seq acc } } (fun b o e hb => Heap.get?_push_of_some _ (kS b o e hb)) (fun b o e hb => Heap.get?_push_of_some _ (k5 b o e hb))
        have gb' : AllBare s'.gens := AllBare.movedS (s := { s with heap := h₅, gens := s.gens.push gs, toks := tk }) (h.wd.gb.push hgb) hm
        obtain ⟨h9, l9, x9⟩ := h.growT (s' := { s' with heap := s'.heap.push { cls := .type "tuple", data := .seq acc } }) 58 (by simp) (fun b o hb e => Heap.get?_push_of_some _ (kS b o e hb)) tbS hm.os gb'
        have nn : s.heap.get? s'.heap.objs.size = none := by
          cases q : s.heap.get? s'.heap.objs.size with
          | none => rfl
          | some o' =>
            by_cases h58 : s'.heap.objs.size = 58
            · obtain ⟨ps', e', _⟩ := tbS
              have e1 : (s'.heap.push { cls := .type "tuple", data := .seq acc }).get? s'.heap.objs.size = some { cls := .type "tuple", data := .seq acc } := Heap.get?_push_size _ rfl
              rw [h58] at e1
              have e2 : (s'.heap.push { cls := .type "tuple", data := .seq acc }).get? 58 = some (tableObj ps') := e'
              rw [e1] at e2; cases e2
            · exact absurd (Heap.lt_size (kS _ _ q h58)) (Nat.lt_irrefl _)
        refine q' _ _ acc.toList _ l9 (by rw [Array.length_toList, hacc.1, hlen]) (fun k u hu => ?_) ⟨_, _, rfl, x9 _ _ nn (Heap.get?_push_size _ rfl), 0, by simp⟩ h9
        obtain ⟨i, ei, n1, n2, t, a1, a2, a3⟩ := hacc.2 k u (by simpa using hu)
        have : i = k := by
          rw [passing_all] at ei
          obtain ⟨hlt, e9⟩ := List.getElem?_eq_some_iff.mp ei
          simpa using e9.symm
        subst this
        exact ⟨n1, n2, t, a1, a2, a3⟩
  refine ⟨by obtain ⟨mc, x, r⟩ := lim; exact ⟨mc, x.keeps kp, r⟩, ?_⟩
  have C1 : CodeHd h' 62 58 := C0.keeps kp
  have t1 := kp _ _ et
  cases hca : codeAmong pos ps.toList with
  | some cv =>
    refine wpAny_genexprCode_hit hcode (C1.code t1 tr) hca (fin cv h' _ (fun _ _ _ e => e) (Nat.le_refl _) fun s'' k1 k2 => ⟨ps, k2 _ _ t1 (fun hx => hcl58 (by simp only [List.mem_cons, List.not_mem_nil, or_false] at hx ⊢; rcases hx with hx | hx | hx | hx <;> simp [hx])), tr, fun p c' e' => ?_⟩)
    obtain ⟨a, e1, e2⟩ := hc p c' e'
    exact ⟨a, e1, e2.mono fun a o e => by simp only [extP, h.wd.fz a o e]; exact e⟩
  | none =>
    refine wpAny_genexprCodeX hcode (C1.code t1 tr) (C1.tab t1) hca fun c' h₃ tk₃ hx₃ hge hlt hcode₃ hrec₃ htab₃ _ => ?_
    refine fin _ h₃ tk₃ (fun b o hb e => hx₃ b o hb e) (Nat.le_trans hge (Nat.le_of_lt hlt)) fun s'' k1 k2 => ⟨_, k2 _ _ htab₃.2 (fun hx => hcl58 (by simp only [List.mem_cons, List.not_mem_nil, or_false] at hx ⊢; rcases hx with hx | hx | hx | hx <;> simp [hx])), ?_, fun p cx e' => ?_⟩
    · simpa using TriplesOk_snoc _ _ _ _ tr
    · have e'' : codeAmong p (ps.toList ++ [rawInt pos.line, rawInt pos.col, .ref c']) = some cx := by simpa using e'
      rcases TriplesOk.among_snoc _ tr e'' with q | q
      · obtain ⟨a, e1, e2⟩ := hc p cx q
        exact ⟨a, e1, e2.mono fun a o e => by simp only [extP, h.wd.fz a o e]; exact e⟩
      · subst q
        obtain ⟨c1, o1, v1, tt1, ec, eo, d1, d2⟩ := hrec₃
        cases ec
        have hz' : s.heap.objs.size ≤ c' := by
          have := fr z (by simp)
          exact Nat.le_trans (Nat.le_of_lt (Nat.lt_of_le_of_lt this (Heap.lt_size Z.z))) hge
        have nc : s.heap.get? c' = none := by
          cases q : s.heap.get? c' with
          | none => rfl
          | some o' => exact absurd (Heap.lt_size q) (Nat.not_lt.mpr hz')
        have nw : c' ∉ [z, TO, i1, i2] := fun hx => by
          have hlz : c' < h'.objs.size := by
            obtain ⟨a', b', hTO⟩ := Z.to
            obtain ⟨_, e1, _⟩ := Z.i1
            obtain ⟨_, e2, _⟩ := Z.i2
            simp only [List.mem_cons, List.not_mem_nil, or_false] at hx
            rcases hx with rfl | rfl | rfl | rfl
            · exact Heap.lt_size Z.z
            · exact Heap.lt_size hTO
            · exact Heap.lt_size e1
            · exact Heap.lt_size e2
          exact absurd hge (Nat.not_le.mpr hlz)
        exact ⟨c', rfl, o1, v1, tt1, by simp only [extP, nc]; exact k2 _ _ eo nw, d1, hq ▸ d2⟩
end
open PySem PySem.W PySem.W.X PyProof.Rows PySem.Calls
set_option Elab.async false
set_option maxRecDepth 100000
set_option maxHeartbeats 4000000
/-! tables of plain data under texts -/
noncomputable def put {α : Type} (cs : List (Str × α)) (k : Str) (q : α) : List (Str × α) := if cs.any (fun c => decide (c.1 = k)) then cs.map (fun c => if c.1 = k then (c.1, q) else c) else cs ++ [(k, q)]
noncomputable def get {α : Type} (cs : List (Str × α)) (k : Str) : Option α := (cs.find? fun c => decide (c.1 = k)).map (·.2)

inductive DR {α : Type} (R : Value → α → Prop) : List (Str × Value) → List (Str × α) → Prop
  | nil : DR R [] []
  | cons {k : Str} {v : Value} {q : α} {kvs : List (Str × Value)} {cs : List (Str × α)} : R v q → DR R kvs cs → DR R ((k, v) :: kvs) ((k, q) :: cs)
section
variable {α : Type} {R R' : Value → α → Prop} {kvs : List (Str × Value)} {cs : List (Str × α)} {k : Str} {v : Value} {q : α}
theorem DR.mono (h : DR R kvs cs) (f : ∀ v q, R v q → R' v q) : DR R' kvs cs := by
  induction h with
  | nil => exact .nil
  | cons a _ ih => exact .cons (f _ _ a) ih
theorem DR.length (h : DR R kvs cs) : kvs.length = cs.length := by induction h <;> simp_all
theorem DR.keys (h : DR R kvs cs) : kvs.map (·.1) = cs.map (·.1) := by induction h <;> simp_all
theorem DR.append (h : DR R kvs cs) {kvs' : List (Str × Value)} {cs' : List (Str × α)} (h' : DR R kvs' cs') : DR R (kvs ++ kvs') (cs ++ cs') := by
  induction h with
  | nil => exact h'
  | cons a _ ih => exact .cons a ih
theorem DR.take (h : DR R kvs cs) (n : Nat) : DR R (kvs.take n) (cs.take n) := by
  induction h generalizing n with
  | nil => simp; exact .nil
  | cons a _ ih => cases n with
    | zero => exact .nil
    | succ n => exact .cons a (ih n)
theorem DR.at (h : DR R kvs cs) {n : Nat} (e : kvs[n]? = some (k, v)) : ∃ q, cs[n]? = some (k, q) ∧ R v q := by
  induction h generalizing n with
  | nil => simp at e
  | cons a _ ih => cases n with
    | zero => simp at e; obtain ⟨rfl, rfl⟩ := e; exact ⟨_, rfl, a⟩
    | succ n => exact ih (by simpa using e)
theorem DR.some (h : DR R kvs cs) (e : valueAt kvs k = some v) : ∃ q, get cs k = some q ∧ R v q := by
  induction h with
  | nil => simp [valueAt] at e
  | @cons k' v' q' _ _ a _ ih =>
    by_cases hk : k' = k
    · subst hk; simp [valueAt] at e; subst e; exact ⟨q', by simp [get], a⟩
    · simp only [valueAt, List.find?_cons, hk, decide_false] at e
      obtain ⟨q, e1, e2⟩ := ih e
      exact ⟨q, by simp only [get, List.find?_cons, hk, decide_false]; exact e1, e2⟩
theorem DR.none (h : DR R kvs cs) (e : valueAt kvs k = none) : get cs k = none := by
  induction h with
  | nil => rfl
  | @cons k' v' q' _ _ a _ ih =>
    by_cases hk : k' = k
    · subst hk; simp [valueAt] at e
    · simp only [valueAt, List.find?_cons, hk, decide_false] at e
      simp only [get, List.find?_cons, hk, decide_false]
      exact ih e
theorem DR.any (h : DR R kvs cs) : kvs.any (fun c => decide (c.1 = k)) = cs.any (fun c => decide (c.1 = k)) := by induction h <;> simp_all
theorem DR.put (h : DR R kvs cs) (r : R v q) : DR R (stored kvs k v) (put cs k q) := by
  unfold stored Mine.put
  rw [h.any]
  split
  · rename_i hh
    clear hh
    induction h with
    | nil => exact .nil
    | @cons k' v' q' _ _ a _ ih =>
      simp only [List.map_cons]
      by_cases hk : k' = k
      · simp only [hk, if_true]; exact .cons r ih
      · simp only [hk, if_false]; exact .cons a ih
  · exact h.append (.cons r .nil)
end
theorem put_keys {α : Type} (cs : List (Str × α)) (k : Str) (q : α) (S : Str → Prop) (h : ∀ c ∈ cs, S c.1) (hk : S k) : ∀ c ∈ put cs k q, S c.1 := by
  unfold put
  split
  · intro c hc
    obtain ⟨c', h1, rfl⟩ := List.mem_map.mp hc
    split
    · exact h c' h1
    · exact h c' h1
  · intro c hc
    rcases List.mem_append.mp hc with h1 | h1
    · exact h c h1
    · simp at h1; subst h1; exact hk

noncomputable def names6 : List Str := ["{sum}", "<go", "~:1(<sum>)", ":0(go)", "a.py:-12(go)", "go>"]
theorem six_le {l : List Str} (nd : l.Nodup) (h : ∀ x ∈ l, x ∈ names6) : l.length ≤ 6 := List.Nodup.length_le_of_subset nd h

noncomputable def RPart (sh : Bool) (P : PM) (v : Value) (q : Quad) : Prop := if sh then ∃ t, v = .int q.1 t else ∃ t1 t2 t3 t4, RT P v [.int q.1 t1, .int q.2.1 t2, .int q.2.2.1 t3, .int q.2.2.2 t4]
theorem RPart.mono {sh : Bool} {P P' : PM} (l : P.le P') {v : Value} {q : Quad} (h : RPart sh P v q) : RPart sh P' v q := by
  unfold RPart at *
  cases sh with
  | true => exact h
  | false => obtain ⟨a, b, c, d, r⟩ := h; exact ⟨a, b, c, d, r.mono l⟩
noncomputable abbrev Callers := List (Str × Quad)
noncomputable abbrev Entry := Quad × Callers
noncomputable abbrev Table := List (Str × Entry)
inductive RC (B : Bs) (sh : Bool) (P : PM) (v : Value) (cs : Callers) : Prop
  | mk (kvs : _) (x1 : RD B P v kvs) (x2 : DR (RPart sh P) kvs cs) (x3 : ∀ c ∈ cs, c.1 ∈ names6)
inductive RE (B : Bs) (sh : Bool) (P : PM) (v : Value) (en : Entry) : Prop
  | mk (t1 : _) (t2 : _) (t3 : _) (t4 : _) (c : _) (x1 : RT P v [.int en.1.1 t1, .int en.1.2.1 t2, .int en.1.2.2.1 t3, .int en.1.2.2.2 t4, c]) (x2 : RC B sh P c en.2)
inductive RTb (B : Bs) (sh : Bool) (P : PM) (v : Value) (T : Table) : Prop
  | mk (kvs : _) (x1 : RD B P v kvs) (x2 : DR (RE B sh P) kvs T) (x3 : ∀ c ∈ T, c.1 ∈ names6)
theorem RC.mono {B : Bs} {sh : Bool} {P P' : PM} (l : P.le P') {v : Value} {cs : Callers} (h : RC B sh P v cs) : RC B sh P' v cs := let ⟨kvs, a, b, c⟩ := h; ⟨kvs, a.mono l, b.mono fun _ _ x => x.mono l, c⟩
theorem RE.mono {B : Bs} {sh : Bool} {P P' : PM} (l : P.le P') {v : Value} {en : Entry} (h : RE B sh P v en) : RE B sh P' v en := let ⟨a, b, c, d, e, r, x⟩ := h; ⟨a, b, c, d, e, r.mono l, x.mono l⟩
theorem RTb.mono {B : Bs} {sh : Bool} {P P' : PM} (l : P.le P') {v : Value} {T : Table} (h : RTb B sh P v T) : RTb B sh P' v T := let ⟨kvs, a, b, c⟩ := h; ⟨kvs, a.mono l, b.mono fun _ _ x => x.mono l, c⟩
theorem RD.nodup {B : Bs} {P : PM} {v : Value} {kvs : List (Str × Value)} (h : RD B P v kvs) : (kvs.map (·.1)).Nodup := let ⟨_, _, _, _, _, i⟩ := h; i.nodup
theorem RC.le6 {B : Bs} {sh : Bool} {P : PM} {v : Value} {cs : Callers} (h : RC B sh P v cs) : cs.length ≤ 6 := by
  obtain ⟨kvs, a, b, c⟩ := h
  have := six_le (b.keys ▸ a.nodup) (fun x hx => by obtain ⟨c', h1, rfl⟩ := List.mem_map.mp hx; exact c _ h1)
  simpa using this

noncomputable def addC (t s : Callers) : Callers := s.foldl (fun acc c => match get acc c.1 with | some q => put acc c.1 (c.2.add q) | none => put acc c.1 c.2) t
open PySem PySem.W PySem.W.X PyProof.Rows PySem.Calls
set_option Elab.async false
set_option maxRecDepth 100000
set_option maxHeartbeats 4000000
section
variable {B : Bs} {P0 P P1 : PM} {s0 s : Shared} {L : Addr} {m : Str → Option Value} {own : List Own} {A : Around} {E : Value → Shared → Prop} {e : Env} {ns : List Str} {vs vs' : List (Option Value)} {M : Model} {kvs : List (Str × Value)}
theorem boot_ty {T : String} (x : Str) (h : bootBuiltins x = some (.type T)) : bootBuiltins x = some (.type T) := h
theorem isiT {v : Value} {xs : List Value} {Q : Value → Shared → Prop} (h : St B P0 s0 P L m own s) (r : RT P v xs) (q : Q (.bool true) s) : wpAny (mdl B) A (call (.builtin "isinstance") [v, .type "tuple"]) Q E s := by
  obtain ⟨a, o, rfl, p, n, rfl⟩ := r
  exact call_isinstance_yes (Tx := "tuple") ⟨_, h.at p, rfl⟩ F.isi_meta_tuple sub_tuple_self q
theorem isiI {i : Int} {t : Tok} {Q : Value → Shared → Prop} (h : St B P0 s0 P L m own s) (q : ∀ s', St B P0 s0 P L m own s' → Q (.bool false) s') : wpAny (mdl B) A (call (.builtin "isinstance") [.int i t, .type "tuple"]) Q E s := by
  exact IsiPair.int_tuple (q _ (h.tok _))
end
theorem mgn_isinstance {B : Bs} (ok : Ok B) : B.mg "isinstance" = none := mg_none_of ok.X ok.g (by kernel_rfl)
theorem mgn_tuple {B : Bs} (ok : Ok B) : B.mg "tuple" = none := mg_none_of ok.X ok.g (by kernel_rfl)

theorem mgn_zip {B : Bs} (ok : Ok B) : B.mg "zip" = none := mg_none_of ok.X ok.g (by kernel_rfl)
theorem take_stored {α : Type} [DecidableEq α] {kvs : List (α × Value)} {k : Nat} {x : α} {v : Value} (nd : (kvs.map (·.1)).Nodup) (e : kvs[k]? = some (x, v)) : stored (kvs.take k) x v = kvs.take (k + 1) := by
  have h1 : merged [] (kvs.take k) = kvs.take k := merged_nil_of_nodup _ (by
    rw [List.map_take]; exact nd.sublist (List.take_sublist _ _))
  have h2 : merged [] (kvs.take (k + 1)) = kvs.take (k + 1) := merged_nil_of_nodup _ (by
    rw [List.map_take]; exact nd.sublist (List.take_sublist _ _))
  rw [← h2, merged_take_succ [] kvs k (x, v) e, h1]

theorem four_at {x0 x1 x2 x3 : Int} {t0 t1 t2 t3 : Tok} : ∀ (k : Nat) (v : Value), [Value.int x0 t0, .int x1 t1, .int x2 t2, .int x3 t3][k]? = some v → ∃ i t, [x0, x1, x2, x3][k]? = some i ∧ v = .int i t
  | 0, _, hk => ⟨_, _, rfl, (Option.some.inj hk).symm⟩
  | 1, _, hk => ⟨_, _, rfl, (Option.some.inj hk).symm⟩
  | 2, _, hk => ⟨_, _, rfl, (Option.some.inj hk).symm⟩
  | 3, _, hk => ⟨_, _, rfl, (Option.some.inj hk).symm⟩
theorem len4 {α : Type} : ∀ {us : List α}, us.length = 4 → ∃ a b c d, us = [a, b, c, d]
  | a :: us, h => by
    cases us with
    | nil => cases h
    | cons b us =>
      cases us with
      | nil => cases h
      | cons c us =>
        cases us with
        | nil => cases h
        | cons d us => exact ⟨a, b, c, d, by rw [List.eq_nil_of_length_eq_zero (Nat.add_right_cancel (m := 4) (k := 0) h)]⟩
theorem four_e {is js : List Int} {us : List Value} (hu : ∀ (k : Nat) u, us[k]? = some u → ∃ i j t, is[k]? = some i ∧ js[k]? = some j ∧ u = .int (i + j) t) {k : Nat} {i j : Int} {u : Value} (hi : is[k]? = some i) (hj : js[k]? = some j) (h : us[k]? = some u) : ∃ t, u = .int (i + j) t := by
  obtain ⟨i', j', t, a, b, c⟩ := hu k u h
  rw [hi] at a; rw [hj] at b
  cases a; cases b
  exact ⟨t, c⟩
theorem four_us {P : PM} {v : Value} {q q' : Quad} {us : List Value} (lu : us.length = 4) (hu : ∀ (k : Nat) u, us[k]? = some u → ∃ i j t, [q.1, q.2.1, q.2.2.1, q.2.2.2][k]? = some i ∧ [q'.1, q'.2.1, q'.2.2.1, q'.2.2.2][k]? = some j ∧ u = .int (i + j) t) (r5 : RT P v us) : RPart false P v (q.add q') := by
  obtain ⟨u0, u1, u2, u3, rfl⟩ := len4 lu
  obtain ⟨t0, rfl⟩ := four_e hu (k := 0) rfl rfl rfl
  obtain ⟨t1, rfl⟩ := four_e hu (k := 1) rfl rfl rfl
  obtain ⟨t2, rfl⟩ := four_e hu (k := 2) rfl rfl rfl
  obtain ⟨t3, rfl⟩ := four_e hu (k := 3) rfl rfl rfl
  exact ⟨_, _, _, _, r5⟩
theorem addCallers {B : Bs} {P : PM} {s : Shared} {sh : Bool} (ok : Ok B) (wd : Wd B P s) (t u : Value) (cs ds : Callers) (ht : RC B sh P t cs) (hu : RC B sh P u ds) :
    Spec B (AA 501 2003) (.ref 63) [t, u] P s (fun P' v => RC B sh P' v (addC cs ds)) := by
  refine enterK ok wd 63 4 62 ["target", "source"] ["new_callers", "func", "caller"]
    (fun p => by kernel_rfl) (fun p => by kernel_rfl) (fun p => by kernel_rfl) (fun p => by kernel_rfl) (fun p => by kernel_rfl) (fun p => ⟨⟨by kernel_rfl, by kernel_rfl⟩, by kernel_rfl, by kernel_rfl, by kernel_rfl, by kernel_rfl, by kernel_rfl⟩) (by kernel_rfl) (by kernel_rfl) rfl (by decide) ?_
  intro L s1 h fe
  dsimp only [List.cons_append, List.nil_append, List.map] at h fe
  obtain ⟨kt, rt, dt, mt⟩ := id ht
  obtain ⟨ku, ru, du, mu⟩ := id hu
  refine seq ?_; walk_at "h"
  refine wpAny_Assign_Name ?_
  refine newD h fun d s1 h => ?_
  refine stv h fe (by walk_at "up") fun s1 h => ?_
  first | walk_at "n" | refine Nx.next ?_
  refine seq ?_; walk_at "h"
  refine forItems (B := B) h fe rfl rt (by walk_at "lk") (fun k P' vs own => own = [(d, isDct B (kt.take k))] ∧ ∃ a b, vs = [some t, some u, some (.ref d), a, b]) ⟨rfl, _, _, rfl⟩ ?_ ?_ rfl
  · rintro it p k P' P'' vs' own' tv key x v s1 hk ⟨tk, rfl⟩ l l' ⟨rfl, a, b, rfl⟩ r h
    refine unpT (B := B) h rfl r rfl rfl fun s1 h => ?_
    refine asgMore (stb h fe (by walk_at "up") fun s1 h => ?_)
    refine asgMore (stb h fe (by walk_at "up") fun s1 h => ?_)
    refine wpAny_assignInOrder_none ?_
    refine seq ?_; walk_at "h"
    refine wpAny_Assign_Subscript ?_; walk_at "h"
    refine ldv h fe (by walk_at "lk") ?_
    refine ldv h fe (by walk_at "lk") ?_
    refine ldv h fe (by walk_at "lk") ?_
    refine setD (B := B) h.swap ?_ fun s1 h => ?_
    · have := rt.nodup; have h6 := ht.le6; have := dt.length; rw [List.length_take, sizeLine_eq]; lia
    rw [take_stored rt.nodup hk] at h
    first | walk_at "n" | refine Nx.next ?_
    refine seq0 ?_
    refine Lp.next ?_
    exact ⟨P'', _, _, l.trans l', ⟨rfl, _, _, rfl⟩, h.swap⟩
  · rintro P' vs' own' s1 l ⟨rfl, a, b, rfl⟩ h
    rw [List.take_length] at h
    first | walk_at "n" | refine Nx.next ?_
    refine seq ?_; walk_at "h"
    refine forItems (B := B) h fe rfl (ru.mono l) (by walk_at "lk") (fun k P' vs own => (∃ kn, own = [(d, isDct B kn)] ∧ DR (RPart sh P') kn (addC cs (ds.take k)) ∧ ∀ c ∈ addC cs (ds.take k), c.1 ∈ names6) ∧ ∃ a b, vs = [some t, some u, some (.ref d), a, b])
      ⟨⟨kt, rfl, dt.mono fun _ _ x => x.mono l, mt⟩, _, _, rfl⟩ ?_ ?_ rfl
    · rintro it p k P1 P2 vs' own' tv key x v s1 hk ⟨tk, rfl⟩ l1 l2 ⟨⟨kn, rfl, dn, mn⟩, a, b, rfl⟩ r h
      obtain ⟨q, eq, rq⟩ := du.at hk
      have rq := (rq.mono (l.trans (l1.trans l2)))
      have dn := dn.mono fun _ _ y => RPart.mono l2 y
      have hx : x ∈ names6 := mu _ (List.mem_of_getElem? eq)
      have nxt : addC cs (ds.take (k + 1)) = match get (addC cs (ds.take k)) x with | some q' => put (addC cs (ds.take k)) x (q.add q') | none => put (addC cs (ds.take k)) x q := by
        have : ds.take (k + 1) = ds.take k ++ [(x, q)] := by rw [List.take_add_one, eq]; rfl
        rw [this, addC, List.foldl_append]; rfl
      obtain ⟨o, po, io⟩ := h.swap.head
      have nd := io.nodup
      have len : kn.length ≤ sizeLine := by
        have := six_le (dn.keys ▸ nd) (fun z hz => by obtain ⟨c', h1, rfl⟩ := List.mem_map.mp hz; exact mn _ h1)
        rw [List.length_map, ← dn.length] at this; rw [sizeLine_eq]; lia
      refine unpT (B := B) h rfl r rfl rfl fun s1 h => ?_
      refine asgMore (stb h fe (by walk_at "up") fun s1 h => ?_)
      refine asgMore (stb h fe (by walk_at "up") fun s1 h => ?_)
      refine wpAny_assignInOrder_none ?_
      refine seq ?_; walk_at "h"
      refine wpAny_If ?_; walk_at "h"
      refine wpAny_isTrue_Compare1 ?_; walk_at "h"
      refine ldv h fe (by walk_at "lk") ?_
      refine ldv h fe (by walk_at "lk") ?_
      obtain ⟨o, po, io⟩ := h.swap.head
      refine inD (B := B) h (h.ne1 ok (.tail _ (.head _))) po io fun s1 h => ?_
      refine wpAny_truthy_bool ?_
      cases hv : valueAt kn x with
      | none =>
        first | walk_at "n" | rw [Option.isSome_none, if_neg Bool.false_ne_true]
        refine seq ?_; walk_at "h"
        refine wpAny_Assign_Subscript ?_; walk_at "h"
        refine ldv h fe (by walk_at "lk") ?_
        refine ldv h fe (by walk_at "lk") ?_
        refine ldv h fe (by walk_at "lk") ?_
        refine setD (B := B) h.swap len fun s1 h => ?_
        refine Nx.next (seq0 (Nx.next (seq0 (Lp.next ?_))))
        refine ⟨P2, _, _, l1.trans l2, ⟨⟨_, rfl, ?_, ?_⟩, _, _, rfl⟩, h.swap⟩
        · rw [nxt, dn.none hv]; exact dn.put rq
        · rw [nxt, dn.none hv]; exact put_keys _ _ _ (· ∈ names6) mn hx
      | some w =>
        first | walk_at "n" | rw [Option.isSome_some, if_pos rfl]
        obtain ⟨q', eq', rq'⟩ := dn.some hv
        refine seq ?_; walk_at "h"
        refine wpAny_If ?_; walk_at "h"
        refine wpAny_isTrue_value ?_
        refine Call_ ?_; walk_at "h"
        refine ldb ok h fe (mgn_isinstance ok) boot_isinstance (by kernel_rfl) ?_
        with_reducible refine callB ?_ rfl rfl
        refine args_cons (ldv h fe (by walk_at "lk") ?_)
        refine args_cons (ldb ok h fe (mgn_tuple ok) boot_tuple (by kernel_rfl) ?_)
        refine args_nil ?_
        cases sh with
        | true =>
          obtain ⟨ta, rfl⟩ := rq
          obtain ⟨tb, rfl⟩ := rq'
          refine isiI (B := B) h fun s1 h => ?_
          refine wpAny_truthy_bool ?_
          first | walk_at "n" | rw [if_neg Bool.false_ne_true]
          refine seq ?_; walk_at "h"
          refine wpAny_AugAssign_SubscriptAny ?_; walk_at "h"
          refine ldv h fe (by walk_at "lk") ?_
          refine ldv h fe (by walk_at "lk") ?_
          obtain ⟨o, po, io⟩ := h.swap.head
          refine getD (B := B) h po io hv fun s1 h => ?_
          refine ldv h fe (by walk_at "lk") ?_
          with_reducible refine iaddN h fun t9 s1 h => ?_
          refine setD (B := B) h.swap len fun s1 h => ?_
          refine Nx.next (seq0 (Nx.next (seq0 (Nx.next (seq0 (Lp.next ?_))))))
          refine ⟨P2, _, _, l1.trans l2, ⟨⟨_, rfl, ?_, ?_⟩, _, _, rfl⟩, h.swap⟩
          · rw [nxt, eq']; exact dn.put ⟨_, by rw [show (q.add q').1 = q'.1 + q.1 from Int.add_comm _ _]⟩
          · rw [nxt, eq']; exact put_keys _ _ _ (· ∈ names6) mn hx
        | false =>
          obtain ⟨a1, a2, a3, a4, ra⟩ := rq
          obtain ⟨c1, c2, c3, c4, rc⟩ := rq'
          refine isiT (B := B) h ra ?_
          refine wpAny_truthy_bool ?_
          first | walk_at "n" | rw [if_pos rfl]
          refine seq ?_; walk_at "h"
          refine wpAny_Assign_Subscript ?_ (by with_unfolding_all rfl); walk_at "h"
          refine Call_ ?_ (by with_unfolding_all rfl); walk_at "h"
          refine ldb ok h fe (mgn_tuple ok) boot_tuple (by kernel_rfl) ?_
          with_reducible refine callT ?_ rfl rfl
          refine args_cons ?_; walk_at "h"
          obtain ⟨la, o1, rfl, e1, i1⟩ := id ra
          obtain ⟨lc, o2, rfl, e2, i2⟩ := id rc
          refine genTup (xs := [.int q.1 a1, .int q.2.1 a2, .int q.2.2.1 a3, .int q.2.2.2 a4]) (ys := [.int q'.1 c1, .int q'.2.1 c2, .int q'.2.2.1 c3, .int q'.2.2.2 c4]) (is := [q.1, q.2.1, q.2.2.1, q.2.2.2]) (js := [q'.1, q'.2.1, q'.2.2.1, q'.2.2.2]) (l1 := la) (l2 := lc) ok h fe rfl (by decide) (by kernel_rfl) (by kernel_rfl) rfl (by with_unfolding_all rfl) (by decide) (by decide) (by decide) (by decide) rfl (by intro _; with_unfolding_all rfl)
            rfl (by rw [sizeLine_eq]; simp) four_at four_at (fun {Q'} q9 => ?_) fun a s1 tup => ?_
          · refine Call_ ?_ (by with_unfolding_all rfl)
            refine ldb ok h fe (mgn_zip ok) boot_zip (by kernel_rfl) ?_
            with_reducible refine callT ?_ rfl rfl
            refine args_cons (ldv h fe (by walk_at "lk") ?_)
            refine args_cons (Subscript_ (ldv h fe (by walk_at "lk") (ldv h fe (by walk_at "lk") ?_)))
            obtain ⟨o, po, io⟩ := h.swap.head
            refine tail_any (io.dictOf po).typeIs slot_dict_getitem.lookup (wpAny_getItem_of (knd := skd B) (str_is x tk) (io.dictOf po).mapOf hv ?_) (by with_unfolding_all rfl)
            refine args_nil ?_
            exact callZipT (h.isTup e1 i1) (h.isTup e2 i2) fun h' z TI TO i1 i2 D Z fr kp => q9 h' z TI TO i1 i2 _ D Z fr kp
          · refine args_nil ?_
            refine tup fun P5 v5 us s1 l5 lu hu r5 h => ?_
            refine ldv h fe (by walk_at "lk") ?_
            refine ldv h fe (by walk_at "lk") ?_
            refine setD (B := B) h.swap len fun s1 h => ?_
            refine Nx.next (seq0 (Nx.next (seq0 (Nx.next (seq0 (Lp.next ?_))))))
            refine ⟨P5, _, _, (l1.trans l2).trans l5, ⟨⟨_, rfl, ?_, ?_⟩, _, _, rfl⟩, h.swap⟩
            · rw [nxt, eq']
              refine (dn.mono fun _ _ y => RPart.mono l5 y).put ?_
              exact four_us lu hu r5
            · rw [nxt, eq']; exact put_keys _ _ _ (· ∈ names6) mn hx
    · rintro P1 vs' own' s1 l1 ⟨⟨kn, rfl, dn, mn⟩, a, b, rfl⟩ h
      first | walk_at "n" | refine Nx.next ?_
      refine seq ?_; walk_at "h"
      refine wpAny_Return_some ?_
      refine ldv h fe (by walk_at "lk") ?_
      have n1 := h.ne1 ok (.head _)
      obtain ⟨P3, o, l3, e3, i3, h⟩ := h.freeze
      refine Nx.ret ?_
      rw [du.length, List.take_length] at dn mn
      exact h.out ⟨kn, ⟨d, o, rfl, n1, e3, i3⟩, dn.mono fun _ _ y => y.mono l3, mn⟩
open PySem PySem.W PySem.W.X PyProof.Rows PySem.Calls
set_option Elab.async false
set_option maxRecDepth 100000
set_option maxHeartbeats 4000000
noncomputable def KB (p : Params) : Frag := (hz.heap_157 p).filter fun q => !(tabs.contains q.1)
theorem lookup_filter {f : Addr → Bool} : ∀ (K : Frag) (a : Addr) (o : Obj), List.lookup a (K.filter fun q => f q.1) = some o → K.lookup a = some o ∧ f a = true
  | [], a, o, h => by simp at h
  | (b, x) :: K, a, o, h => by
    by_cases hb : f b = true
    · rw [List.filter_cons, if_pos hb] at h
      by_cases hab : a = b
      · subst hab; simp at h; exact ⟨by simp [h], hb⟩
      · have : (a == b) = false := beq_eq_false_iff_ne.mpr hab
        simp only [List.lookup_cons, this] at h ⊢
        exact lookup_filter K a o h
    · rw [List.filter_cons, if_neg hb] at h
      have := lookup_filter K a o h
      have hab : a ≠ b := fun e => hb (e ▸ this.2)
      have hbe : (a == b) = false := beq_eq_false_iff_ne.mpr hab
      simp only [List.lookup_cons, hbe]
      exact this
theorem Wd.kb {B : Bs} {P : PM} {s : Shared} (h : Wd B P s) (ok : Ok B) : (KB B.w.params).In s.heap := fun a o e => by
  have := lookup_filter (f := fun a => !(tabs.contains a)) _ _ _ e
  exact h.base (ok.X _ _ this.1) (by simpa using this.2)

noncomputable def fnTab : List (Str × Int × Str × Str) := [("~", 0, "<sum>", "{sum}"), ("~", 0, "<go", "<go"), ("~", 1, "<sum>", "~:1(<sum>)"), ("", 0, "go", ":0(go)"), ("a.py", -12, "go", "a.py:-12(go)"), ("~", 0, "go>", "go>")]
inductive RFn (P : PM) (v : Value) (f : Str × Int × Str × Str) : Prop
  | mk (t1 : _) (t2 : _) (t3 : _) (t4 : _) (x1 : RT P v [.str f.1 t1, .int f.2.1 t2, .str f.2.2.1 t3, .str f.2.2.2 t4])
inductive RFs (P : PM) (v : Value) : Prop
  | mk (v0 : _) (v1 : _) (v2 : _) (v3 : _) (v4 : _) (v5 : _) (x1 : RL P v [v0, v1, v2, v3, v4, v5]) (x2 : RFn P v0 ("~", 0, "<sum>", "{sum}")) (x3 : RFn P v1 ("~", 0, "<go", "<go")) (x4 : RFn P v2 ("~", 1, "<sum>", "~:1(<sum>)")) (x5 : RFn P v3 ("", 0, "go", ":0(go)")) (x6 : RFn P v4 ("a.py", -12, "go", "a.py:-12(go)")) (x7 : RFn P v5 ("~", 0, "go>", "go>"))

theorem RFn.mono {P P' : PM} (l : P.le P') {v : Value} {f : Str × Int × Str × Str} (h : RFn P v f) : RFn P' v f := let ⟨a, b, c, d, r⟩ := h; ⟨a, b, c, d, r.mono l⟩
open PySem PySem.W PySem.W.X PyProof.Rows PySem.Calls
set_option Elab.async false
set_option maxRecDepth 100000
set_option maxHeartbeats 4000000
section
variable {B : Bs} {P0 P P1 : PM} {s0 s : Shared} {L : Addr} {m : Str → Option Value} {own : List Own} {A : Around} {E : Value → Shared → Prop} {e : Env} {ns : List Str} {vs vs' : List (Option Value)} {M : Model} {kvs : List (Str × Value)} {prog : Program} {w : World}

theorem kstr {x : Str} {k : Nat} {pos : Pos} {Q : Value → Shared → Prop} (h : St B P0 s0 P L m own s) (q : ∀ t s', St B P0 s0 P L m own s' → Q (.str x t) s') : wpAny M A (eval (.Constant (.str x) k pos) e) Q E s :=
  wpAny_Constant_str (q _ _ (h.tok _))
theorem isTup_of {vs : List Value} {o : Obj} {h : Heap} {a : Addr} (e : h.get? a = some o) (i : isTup vs o) : IsTup h a vs.toArray := by
  obtain ⟨n, rfl⟩ := i
  exact ⟨_, e, rfl, n, rfl⟩
theorem isLst_of {vs : List Value} {o : Obj} {h : Heap} {a : Addr} (e : h.get? a = some o) (i : isLst vs o) : h.IsList a vs.toArray := by
  obtain ⟨n, rfl⟩ := i
  exact ⟨_, e, rfl, n, rfl⟩
theorem St.tup (h : St B P0 s0 P L m own s) {v : Value} {xs : List Value} (r : RT P v xs) : ∃ a, v = .ref a ∧ IsTup s.heap a xs.toArray := let ⟨a, o, e, p, i⟩ := r; ⟨a, e, isTup_of (h.at p) i⟩
theorem St.lst (h : St B P0 s0 P L m own s) {v : Value} {xs : List Value} (r : RL P v xs) : ∃ a, v = .ref a ∧ s.heap.IsList a xs.toArray := let ⟨a, o, e, p, i⟩ := r; ⟨a, e, isLst_of (h.at p) i⟩
/-- a tuple's place -/
theorem atT {value slice : Expr} {v x : Value} {xs : List Value} {k : Int} {u : Tok} {Q : Value → Shared → Prop} (h : St B P0 s0 P L m own s) (r : RT P v xs) (h0 : 0 ≤ k) (h1 : k < 2 ^ 63) (hx : xs[k.toNat]? = some x) (q : Q x s)
    (hs : ∀ a, subscripted slice false (.ref a) (.int k u) = operate [.ref a, .int k u] (getItem (.ref a) (.int k u))) :
    wpAny (model prog w) A (subscriptTail value slice v (.int k u)) Q E s := by
  obtain ⟨a, rfl, ht⟩ := h.tup r
  refine item_tupleT (j := k.toNat) ht (by lia) h1 ?_ hx q (hs a)
  have := (List.getElem?_eq_some_iff.mp hx).1
  unfold seqIndex?
  split <;> simp_all <;> lia
theorem atL {value slice : Expr} {v x : Value} {xs : List Value} {k : Int} {u : Tok} {Q : Value → Shared → Prop} (h : St B P0 s0 P L m own s) (r : RL P v xs) (h0 : 0 ≤ k) (h1 : k < 2 ^ 63) (hx : xs[k.toNat]? = some x) (q : Q x s)
    (hs : ∀ a, subscripted slice false (.ref a) (.int k u) = operate [.ref a, .int k u] (getItem (.ref a) (.int k u))) :
    wpAny (model prog w) A (subscriptTail value slice v (.int k u)) Q E s := by
  obtain ⟨a, rfl, ht⟩ := h.lst r
  exact tail_any (Heap.IsList.typeIs ht) list_getitem_lookup (wpAny_getItem_list ht h0 h1 (by simpa using hx) q) (hs a)

theorem adjust_upto (b n : Nat) (ha : b ≤ n) : Builtin.Slice.sliceAdjust none (some (b : Int)) 1 (n : Int) = (0, (b : Int)) := by
  unfold Builtin.Slice.sliceAdjust
  have h1 : ¬ ((1 : Int) < 0) := by lia
  have h2 : ¬ ((b : Int) < 0) := by lia
  simp only [h1, h2, if_false]
  congr 1
  lia
theorem places_upto (b : Nat) : Builtin.Slice.slicePlaces 0 (b : Int) 1 = b := by
  unfold Builtin.Slice.slicePlaces
  have h1 : (1 : Int) > 0 := by lia
  simp only [h1, if_true, Int.ediv_one]
  split <;> lia
theorem sliceApplied_upto {sl : Addr} {b n : Nat} {u : Tok} {Q : Int × Int × Nat → Shared → Prop} (hs : s.heap.IsSliceOf sl .none (.int b u) .none) (ha : b ≤ n) (h : Q (0, 1, b) s) :
    wpAny (model prog w) A (Builtin.Slice.sliceApplied (.ref sl) (pure (n : Int))) Q E s := by
  obtain ⟨os, hos, hcs, hds⟩ := id hs
  unfold Builtin.Slice.sliceApplied Builtin.Slice.sliceFields
  refine wpAny_bind (wpAny_bind (wpAny_field hos hds (x := .none) rfl (wpAny_bind (wpAny_field hos hds (x := .int b u) rfl (wpAny_bind (wpAny_field hos hds (x := .none) rfl (wpAny_pure ?_)))))))
  refine wpAny_bind (slicePart_none ?_)
  show wpAny _ _ (if ((1 : Int) == 0) = true then _ else _) _ _ s
  rw [if_neg (by decide)]
  refine wpAny_bind (slicePart_none (wpAny_bind (slicePart_int (wpAny_bind (wpAny_pure ?_)))))
  show wpAny _ _ (match Builtin.Slice.sliceAdjust none (some (b : Int)) 1 (n : Int) with | (lo, hi) => pure (lo, (1 : Int), Builtin.Slice.slicePlaces lo hi 1)) _ _ s
  rw [adjust_upto b n ha]
  show wpAny _ _ (pure ((0 : Int), (1 : Int), Builtin.Slice.slicePlaces 0 (b : Int) 1)) _ _ s
  rw [places_upto b]
  exact wpAny_pure h
theorem pick_upto (xs : Array Value) (b : Nat) : ((List.range b).filterMap fun (k : Nat) => xs[((0 : Int) + (k : Int) * 1).toNat]?).toArray = (xs.toList.take b).toArray := by
  have e : (fun (k : Nat) => xs[((0 : Int) + (k : Int) * 1).toNat]?) = fun k => xs[0 + k]? := by
    funext k
    have : ((0 : Int) + (k : Int) * 1).toNat = 0 + k := by lia
    rw [this]
  rw [e]
  have := pick_run xs 0 b
  rw [List.filterMap_map] at this
  have e2 : ((fun x => xs[x]?) ∘ fun x => 0 + x) = fun k => xs[0 + k]? := rfl
  rw [e2] at this
  rw [this, List.drop_zero]
theorem getItem_tuple_upto {t sl : Addr} {items : Array Value} {b : Nat} {u : Tok} {Q : Value → Shared → Prop} (ht : IsTup s.heap t items) (hs : s.heap.IsSliceOf sl .none (.int b u) .none) (ha : b < items.size)
    (h : Q (.ref s.heap.objs.size) { s with heap := s.heap.push { cls := .type "tuple", data := .seq (items.toList.take b).toArray } })
    (hsz : items.size ≤ sizeLine) : wpAny (model prog w) A (getItem (.ref t) (.ref sl)) Q E s := by
  have hdrop : sizeOk (.seq (items.toList.take b).toArray) := by
    show (items.toList.take b).toArray.size ≤ sizeLine
    rw [List.size_toArray, List.length_take, Array.length_toList]
    lia
  obtain ⟨os, hos, hcs, hds⟩ := id hs
  have hTs : s.TypeIs (.ref sl) "slice" := ⟨os, hos, hcs⟩
  unfold getItem
  try with_reducible refine wpAny_holding ?_
  first | refine wpAny_bind (wpAny_pure ?_) | skip
  refine wpAny_bind (wpAny_sequenceKey ht.typeIs (by decide) ?_)
  refine wpAny_bind (wpAny_callSpecial?_slot (name := Str.ofString "__getitem__") ht.typeIs slot_tuple_getitem
    (wpAny_call_entry slot_tuple_getitem ht.typeIs entry_tuple_getitem ?_ (args_tuple_getitem _ _)))
  show wpAny _ _ (Builtin.Tuple.tupleItemsOf (.ref t) >>= _) _ _ s
  refine wpAny_bind (tupleItemsOf_ ht ?_)
  refine wpAny_bind (wpAny_typeOf hTs ?_)
  rw [if_pos (by decide)]
  refine wpAny_bind (sliceApplied_upto hs (Nat.le_of_lt ha) ?_)
  have hno : ¬ (((0 : Int) == 0 && (1 : Int) == 1 && b == items.size) = true) := by
    have : (b == items.size) = false := by rw [beq_eq_false_iff_ne]; lia
    rw [this]; simp
  show wpAny _ _ (if ((0 : Int) == 0 && (1 : Int) == 1 && b == items.size) = true then _ else _) _ _ s
  rw [if_neg hno, pick_upto items b]
  first
    | exact wpAny_bind (m := Builtin.Tuple.tupleExact _) (wpAny_newObj_type (wpAny_pure ⟨_, rfl, wpAny_pure h⟩) hdrop)
    | exact wpAny_bind (m := Builtin.Tuple.tupleExact _) (wpAny_newObj_type (wpAny_bind (wpAny_pure (wpAny_pure ⟨_, rfl, wpAny_pure h⟩))) hdrop)
    | exact wpAny_bind (wpAny_bind (m := Builtin.Tuple.tupleExact _) (wpAny_newObj_type (wpAny_pure (wpAny_pure ⟨_, rfl, wpAny_pure h⟩)) hdrop))
    | exact wpAny_bind (wpAny_bind (m := Builtin.Tuple.tupleExact _) (wpAny_newObj_type (wpAny_pure ⟨_, rfl, wpAny_pure h⟩) hdrop))
/-- the slice object that a subscript has made is of no account -/
theorem St.push (h : St B P0 s0 P L m own s) (o : Obj) : St B P0 s0 P L m own { s with heap := s.heap.push o } := h.keep (fun _ _ e => Heap.get?_push_of_some _ e) rfl h.wd.gb
theorem cutTail {value slice : Expr} {v : Value} {xs : List Value} {b : Nat} {u : Tok} {Q : Value → Shared → Prop} (h : St B P0 s0 P L m own s) (r : RT P v xs) (hb : b < xs.length) (hz : xs.length ≤ sizeLine)
    (q : ∀ a s', St B P0 s0 P L m ((a, isTup (xs.take b)) :: own) s' → Q (.ref a) s')
    (hs : ∀ a i, subscripted slice false (.ref a) (.ref i) = operate [.ref i, .ref a] (getItem (.ref a) (.ref i))) :
    wpAny (model prog w) A (subscriptTail value slice v (.ref s.heap.objs.size)) Q E { s with heap := s.heap.push { cls := .type "slice", data := .fields #[.none, .int b u, .none] } } := by
  have h' := h.push { cls := .type "slice", data := .fields #[.none, .int b u, .none] }
  obtain ⟨a, rfl, ht⟩ := h'.tup r
  refine tail_any (s := { s with heap := s.heap.push { cls := .type "slice", data := .fields #[.none, .int b u, .none] } }) ht.typeIs slot_tuple_getitem.lookup (getItem_tuple_upto ht (Heap.IsSliceOf.new ..) (by simpa using hb) ?_ (by simpa using hz)) (hs a _)
  exact q _ _ (h'.new _ rfl ⟨0, by simp⟩)
end
open PySem PySem.W PySem.W.X PyProof.Rows PySem.Calls
set_option Elab.async false
set_option maxRecDepth 100000
set_option maxHeartbeats 4000000
section
variable {B : Bs} {P0 P P1 : PM} {s0 s : Shared} {L : Addr} {m : Str → Option Value} {own : List Own} {A : Around} {E : Value → Shared → Prop} {e : Env} {ns : List Str} {vs vs' : List (Option Value)} {M : Model}
theorem asgN {x : Str} {pos : Pos} {rest : List Expr} {v : Value} {us : List Value} {Q : Unit → Shared → Prop} (h : St B P0 s0 P L (asg ns vs) own s) (fe : FE e L ns) (up : Up ns vs x v vs')
    (q : ∀ s', St B P0 s0 P L (asg ns vs') own s' → wpAny M A (assignInOrder ((assignEach rest e).map (·.2)) us) Q E s') : wpAny M A (assignInOrder ((assignEach (.Name x pos :: rest) e).map (·.2)) (v :: us)) Q E s :=
  asgMore (stb h fe up q)
theorem asg0 {Q : Unit → Shared → Prop} (q : Q () s) : wpAny M A (assignInOrder ((assignEach [] e).map (·.2)) []) Q E s := wpAny_assignInOrder_none q
end
local macro_rules | `(tactic| walk_at "n") => `(tactic| refine (?_ : wpAny _ _ _ _ _ _))
local macro_rules | `(tactic| walk_at "h") => `(tactic| refine let fF := _; (?_ : wpAny _ _ _ fF _ _))

section
variable {B : Bs} {P0 P P1 : PM} {s0 s : Shared} {L : Addr} {m : Str → Option Value} {own : List Own} {A : Around} {E : Value → Shared → Prop} {e : Env} {ns : List Str} {vs vs' : List (Option Value)} {M : Model} {kvs : List (Str × Value)} {prog : Program} {w : World}
theorem negN {a : Int} {t : Tok} {Q : Value → Shared → Prop} (h : St B P0 s0 P L m own s) (q : ∀ t s', St B P0 s0 P L m own s' → Q (.int (-a) t) s') : wpAny (model prog w) A (unaryOp .USub (.int a t)) Q E s := neg_int (q _ _ (h.tok _))
theorem St.keptPush : KeptByPush (fun s => St B P0 s0 P L m own s) := fun s ob k h => (h.push ob).tok k
theorem readsT2 {a : Addr} {o : Obj} {x : Str} {i : Int} {t u : Tok} {hp : Heap} (e : hp.get? a = some o) (it : isTup [.str x t, .int i u] o) : ∃ as, Reads hp (.ref a) (.tuple [.str x, .int i]) as := by
  obtain ⟨n, rfl⟩ := it
  exact ⟨_, .tuple e rfl rfl (.cons (.str ..) (.cons (.int ..) .nil))⟩
end
open PySem PySem.W PySem.W.X PyProof.Rows PySem.Calls
set_option Elab.async false
set_option maxRecDepth 100000
set_option maxHeartbeats 4000000
section
variable {B : Bs} {P : PM} {s : Shared}
theorem std_out (ok : Ok B) (wd : Wd B P s) {v : Value} {x1 x3 nm : Str} {i : Int} {t1 t2 t3 : Tok} (r : RT P v [.str x1 t1, .int i t2, .str x3 t3])
    (hne : PyData.eqv (.tuple [.str x1, .int i]) (.tuple [.str "~", .int 0]) = false) (hsh : SeqAt.shaped (.tuple [.str x1, .int i]) = true)
    (hm : ∀ t b, Meets (Builtin.«str.__mod__» ⟨[.str "%s:%d(%s)" t, .ref b], []⟩) (fun _ R s => IsTup s.heap b #[.str x1 t1, .int i t2, .str x3 t3] ∧ ∀ t' k, R (.ok (.ret (.str nm t'))) { s with toks := k })) :
    Spec B (AA 600 4000) (.ref 49) [v] P s (fun _ v => ∃ t, v = .str nm t) := by
  refine enterK ok wd 49 2 48 ["func_name"] ["name"]
    (fun p => by kernel_rfl) (fun p => by kernel_rfl) (fun p => by kernel_rfl) (fun p => by kernel_rfl) (fun p => by kernel_rfl) (fun p => ⟨⟨by kernel_rfl, by kernel_rfl⟩, by kernel_rfl, by kernel_rfl, by kernel_rfl, by kernel_rfl, by kernel_rfl⟩) (by kernel_rfl) (by kernel_rfl) rfl (by decide) ?_
  intro L s1 h fe
  dsimp only [List.cons_append, List.nil_append, List.map] at h fe
  refine seq ?_
  walk_at "h"
  with_reducible refine wpAny_If ?_
  with_reducible refine wpAny_isTrue_Compare1 ?_ (by with_unfolding_all rfl)
  walk_at "h"
  with_reducible refine Subscript_ ?_
  with_reducible refine ldv h fe (by walk_at "lk") ?_
  walk_at "h"
  with_reducible refine wpAny_Slice ?_
  with_reducible refine evalPart_none_step ?_
  with_reducible refine evalPart_some_step ?_
  with_reducible refine kint h fun _ s1 h => ?_
  with_reducible refine evalPart_none_step ?_
  refine cutTail (b := 2) h r (by simp) (by simp [sizeLine_eq]) (fun a s1 h => ?_) (by intros; with_unfolding_all rfl)
  walk_at "h"
  with_reducible refine Tuple_ ?_
  walk_at "h"
  with_reducible refine args_cons ?_ (by with_unfolding_all rfl)
  with_reducible refine kstr h fun _ s1 h => ?_
  walk_at "h"
  with_reducible refine args_cons ?_ (by with_unfolding_all rfl)
  with_reducible refine kint h fun _ s1 h => ?_
  walk_at "h"
  with_reducible refine args_nil ?_
  refine newTup h fun b s1 h => ?_
  obtain ⟨o1, e1, i1⟩ := h.head
  obtain ⟨o2, e2, i2⟩ := h.swap.head
  obtain ⟨as, ra⟩ := readsT2 e1 i1
  obtain ⟨bs, rb⟩ := readsT2 e2 i2
  refine SeqAt.compareEq_shaped rb ra hsh (by decide +kernel) (by decide) ?_
  rw [hne]
  with_reducible refine wpAny_truthy_bool ?_
  first | walk_at "n" | rw [if_neg Bool.false_ne_true]
  with_reducible refine seq ?_
  walk_at "h"
  with_reducible refine wpAny_Return_some ?_
  walk_at "h"
  with_reducible refine wpAny_BinOp ?_
  with_reducible refine kstr h fun _ s1 h => ?_
  with_reducible refine ldv h fe (by walk_at "lk") ?_
  obtain ⟨c, rfl, ht⟩ := h.tup r
  refine KPt.bin_left (T := "str") (U := "tuple") (op := .Mod) (by decide) (typeIs_str _ _ _) ht.typeIs F.fills_str_mod KPt.fills_tuple F.slot_str_mod
    (call_meets F.slot_str_mod (typeIs_str _ _ _) F.entry_str_mod (F.args_str_mod_2 _ _) (hm _ _) ⟨ht, fun t' k => ⟨(fun e => nomatch e), ?_⟩⟩)
  with_reducible refine Nx.ret ?_
  with_reducible refine Nx.ret ?_
  exact (h.tok k).out ⟨_, rfl⟩

theorem modS {P0 : PM} {s0 : Shared} {L : Addr} {m : Str → Option Value} {own : List Own} {A : Around} {E : Value → Shared → Prop} {prog : Program} {w : World} {X y T : Str} {t u : Tok} {Q : Value → Shared → Prop} (h : St B P0 s0 P L m own s)
    (hm : Meets (Builtin.«str.__mod__» ⟨[.str X t, .str y u], []⟩) (fun _ R s => ∀ t' k, R (.ok (.ret (.str T t'))) { s with toks := k }))
    (q : ∀ t s', St B P0 s0 P L m own s' → Q (.str T t) s') : wpAny (model prog w) A (binaryOp .Mod (.str X t) (.str y u)) Q E s := by
  exact binaryOp_meets (T := "str") (op := .Mod) (typeIs_str s X t) (typeIs_str s y u) F.fills_str_mod F.slot_str_mod F.entry_str_mod (F.args_str_mod_2 _ _) hm (fun t' k => ⟨(fun e => nomatch e), q _ _ (h.tok k)⟩)
theorem std_in (ok : Ok B) (wd : Wd B P s) {v : Value} {x3 nm : Str} {t1 t2 t3 : Tok} (r : RT P v [.str "~" t1, .int 0 t2, .str x3 t3])
    (c : Bool) (hc : (Txt.startswith x3 "<" && Txt.endswith x3 ">") = c) (hz : x3.length ≤ sizeLine)
    (hm : c = true → ∀ t u, Meets (Builtin.«str.__mod__» ⟨[.str "{%s}" t, .str (Txt.slice x3 (some 1) (some (-1))) u], []⟩) (fun _ R s => ∀ t' k, R (.ok (.ret (.str nm t'))) { s with toks := k }))
    (hn : c = false → nm = x3) :
    Spec B (AA 600 4000) (.ref 49) [v] P s (fun _ v => ∃ t, v = .str nm t) := by
  refine enterK ok wd 49 2 48 ["func_name"] ["name"]
    (fun p => by kernel_rfl) (fun p => by kernel_rfl) (fun p => by kernel_rfl) (fun p => by kernel_rfl) (fun p => by kernel_rfl) (fun p => ⟨⟨by kernel_rfl, by kernel_rfl⟩, by kernel_rfl, by kernel_rfl, by kernel_rfl, by kernel_rfl, by kernel_rfl⟩) (by kernel_rfl) (by kernel_rfl) rfl (by decide) ?_
  intro L s1 h fe
  dsimp only [List.cons_append, List.nil_append, List.map] at h fe
  refine seq ?_
  walk_at "h"
  with_reducible refine wpAny_If ?_
  with_reducible refine wpAny_isTrue_Compare1 ?_ (by with_unfolding_all rfl)
  walk_at "h"
  with_reducible refine Subscript_ ?_
  with_reducible refine ldv h fe (by walk_at "lk") ?_
  walk_at "h"
  with_reducible refine wpAny_Slice ?_
  with_reducible refine evalPart_none_step ?_
  with_reducible refine evalPart_some_step ?_
  with_reducible refine kint h fun _ s1 h => ?_
  with_reducible refine evalPart_none_step ?_
  refine cutTail (b := 2) h r (by simp) (by simp [sizeLine_eq]) (fun a s1 h => ?_) (by intros; with_unfolding_all rfl)
  walk_at "h"
  with_reducible refine Tuple_ ?_
  walk_at "h"
  with_reducible refine args_cons ?_ (by with_unfolding_all rfl)
  with_reducible refine kstr h fun _ s1 h => ?_
  walk_at "h"
  with_reducible refine args_cons ?_ (by with_unfolding_all rfl)
  with_reducible refine kint h fun _ s1 h => ?_
  walk_at "h"
  with_reducible refine args_nil ?_
  refine newTup h fun b s1 h => ?_
  obtain ⟨o1, e1, i1⟩ := h.head
  obtain ⟨o2, e2, i2⟩ := h.swap.head
  obtain ⟨as, ra⟩ := readsT2 e1 i1
  obtain ⟨bs, rb⟩ := readsT2 e2 i2
  refine SeqAt.compareEq_shaped rb ra (by decide +kernel) (by decide +kernel) (by decide) ?_
  rw [show PyData.eqv (.tuple [.str "~", .int 0]) (.tuple [.str "~", .int 0]) = true from by decide +kernel]
  with_reducible refine wpAny_truthy_bool ?_
  first | walk_at "n" | rw [if_pos rfl]
  with_reducible refine seq ?_
  walk_at "h"
  with_reducible refine wpAny_Assign_Name ?_ (by with_unfolding_all rfl)
  walk_at "h"
  with_reducible refine Subscript_ ?_
  with_reducible refine ldv h fe (by walk_at "lk") ?_
  with_reducible refine kint h fun _ s1 h => ?_
  refine atT h r (by decide) (by decide) rfl ?_ (by intros; with_unfolding_all rfl)
  with_reducible refine stv h fe (by walk_at "up") fun s1 h => ?_
  walk_at "n"
  with_reducible refine seq ?_
  walk_at "h"
  with_reducible refine wpAny_If ?_
  refine isTrue_and ?_
  refine wpAny_isTrue_value ?_
  refine Call_method1 rfl rfl rfl ?_
  with_reducible refine ldv h fe (by walk_at "lk") ?_
  refine SB.startswith ?_
  with_reducible refine kstr h fun _ s1 h => ?_
  refine ⟨_, _, rfl, ?_⟩
  with_reducible refine wpAny_truthy_bool ?_
  have fin : c = false → ∀ s1, St B P s P L (asg ["func_name", "name"] [some v, some (.str x3 t3)]) [(b, isTup [.str "~" default, .int 0 default])] s1 → True := fun _ _ _ => trivial
  cases ha : Txt.startswith x3 "<" with
  | false =>
    first | walk_at "n" | rw [if_neg Bool.false_ne_true, if_neg Bool.false_ne_true]
    rw [ha] at hc
    with_reducible refine seq ?_
    walk_at "h"
    with_reducible refine wpAny_Return_some ?_
    with_reducible refine ldv h fe (by walk_at "lk") ?_
    with_reducible refine Nx.ret ?_
    with_reducible refine Nx.ret ?_
    with_reducible refine Nx.ret ?_
    exact h.out ⟨_, by rw [hn hc.symm]⟩
  | true =>
    first | walk_at "n" | rw [if_pos rfl]
    rw [ha] at hc
    refine isTrue_and ?_
    refine wpAny_isTrue_value ?_
    refine Call_method1 rfl rfl rfl ?_
    with_reducible refine ldv h fe (by walk_at "lk") ?_
    refine SB.endswith ?_
    with_reducible refine kstr h fun _ s1 h => ?_
    refine ⟨_, _, rfl, ?_⟩
    with_reducible refine wpAny_truthy_bool ?_
    cases hb : Txt.endswith x3 ">" with
    | false =>
      first | walk_at "n" | rw [if_neg Bool.false_ne_true, if_neg Bool.false_ne_true]
      rw [hb] at hc
      with_reducible refine seq ?_
      walk_at "h"
      with_reducible refine wpAny_Return_some ?_
      with_reducible refine ldv h fe (by walk_at "lk") ?_
      with_reducible refine Nx.ret ?_
      with_reducible refine Nx.ret ?_
      with_reducible refine Nx.ret ?_
      exact h.out ⟨_, by rw [hn hc.symm]⟩
    | true =>
      first | walk_at "n" | rw [if_pos rfl]
      rw [hb] at hc
      refine isTrue_and_nil ?_
      first | walk_at "n" | rw [if_pos rfl]
      with_reducible refine seq ?_
      walk_at "h"
      with_reducible refine wpAny_Return_some ?_
      walk_at "h"
      with_reducible refine wpAny_BinOp ?_
      with_reducible refine kstr h fun _ s1 h => ?_
      walk_at "h"
      with_reducible refine Subscript_ ?_
      with_reducible refine ldv h fe (by walk_at "lk") ?_
      walk_at "h"
      with_reducible refine wpAny_Slice ?_
      with_reducible refine evalPart_some_step ?_
      with_reducible refine kint h fun _ s1 h => ?_
      with_reducible refine evalPart_some_step ?_
      walk_at "h"
      with_reducible refine UnaryOp_ ?_
      with_reducible refine kint h fun _ s1 h => ?_
      with_reducible refine negN h fun _ s1 h => ?_
      with_reducible refine evalPart_none_step ?_
      refine tail_of_ItemOn (SBG.sliceItem_ss St.keptPush h (fun s1 t' h => ?_) hz) (by intros; with_unfolding_all rfl) (by intros; with_unfolding_all rfl)
      refine modS h (hm hc.symm _ _) fun t s1 h => ?_
      with_reducible refine Nx.ret ?_
      with_reducible refine Nx.ret ?_
      with_reducible refine Nx.ret ?_
      exact h.out ⟨_, rfl⟩
end
open PySem PySem.W PySem.W.X PyProof.Rows PySem.Calls
set_option Elab.async false
set_option maxRecDepth 100000
set_option maxHeartbeats 4000000
theorem fmt_eq : (Str.ofString "%s:%d(%s)") = ⟨#[37,115,58,37,100,40,37,115,41]⟩ := by decide +kernel
theorem m2 (t1 t2 t3 t : Tok) (b : Addr) : Meets (Builtin.«str.__mod__» ⟨[.str "%s:%d(%s)" t, .ref b], []⟩) (fun _ R s => IsTup s.heap b #[.str "~" t1, .int 1 t2, .str "<sum>" t3] ∧ ∀ t' k, R (.ok (.ret (.str "~:1(<sum>)" t'))) { s with toks := k }) := by
  rw [fmt_eq]
  kpt_run
theorem m3 (t1 t2 t3 t : Tok) (b : Addr) : Meets (Builtin.«str.__mod__» ⟨[.str "%s:%d(%s)" t, .ref b], []⟩) (fun _ R s => IsTup s.heap b #[.str "" t1, .int 0 t2, .str "go" t3] ∧ ∀ t' k, R (.ok (.ret (.str ":0(go)" t'))) { s with toks := k }) := by
  rw [fmt_eq]
  kpt_run
theorem m4 (t1 t2 t3 t : Tok) (b : Addr) : Meets (Builtin.«str.__mod__» ⟨[.str "%s:%d(%s)" t, .ref b], []⟩) (fun _ R s => IsTup s.heap b #[.str "a.py" t1, .int (-12) t2, .str "go" t3] ∧ ∀ t' k, R (.ok (.ret (.str "a.py:-12(go)" t'))) { s with toks := k }) := by
  rw [fmt_eq]
  kpt_run
theorem m0 (t u : Tok) : Meets (Builtin.«str.__mod__» ⟨[.str "{%s}" t, .str (Txt.slice "<sum>" (some 1) (some (-1))) u], []⟩) (fun _ R s => ∀ t' k, R (.ok (.ret (.str "{sum}" t'))) { s with toks := k }) := by
  rw [show (Str.ofString "{%s}") = ⟨#[123,37,115,125]⟩ from by decide +kernel, show Txt.slice "<sum>" (some 1) (some (-1)) = Str.ofString "sum" from by decide +kernel]
  have hl : (Str.ofString "sum").length ≤ 3 := by decide +kernel
  kpc_run_s
/-- the six functions, by their first three parts -/
theorem spec49 {B : Bs} {P : PM} {s : Shared} (ok : Ok B) (wd : Wd B P s) {v : Value} {f : Str × Int × Str × Str} (hf : f ∈ fnTab) {t1 t2 t3 : Tok} (r : RT P v [.str f.1 t1, .int f.2.1 t2, .str f.2.2.1 t3]) :
    Spec B (AA 600 4000) (.ref 49) [v] P s (fun _ v => ∃ t, v = .str f.2.2.2 t) := by
  simp only [fnTab, List.mem_cons, List.not_mem_nil, or_false] at hf
  rcases hf with rfl | rfl | rfl | rfl | rfl | rfl
  · exact std_in ok wd r true (by decide +kernel) (by decide +kernel) (fun _ t u => m0 t u) (fun h => nomatch h)
  · exact std_in ok wd r false (by decide +kernel) (by decide +kernel) (fun h => nomatch h) (fun _ => rfl)
  · exact std_out ok wd r (by decide +kernel) (by decide +kernel) (fun t b => m2 _ _ _ t b)
  · exact std_out ok wd r (by decide +kernel) (by decide +kernel) (fun t b => m3 _ _ _ t b)
  · exact std_out ok wd r (by decide +kernel) (by decide +kernel) (fun t b => m4 _ _ _ t b)
  · exact std_in ok wd r false (by decide +kernel) (by decide +kernel) (fun h => nomatch h) (fun _ => rfl)
open PySem PySem.W PySem.W.X PyProof.Rows PySem.Calls
set_option Elab.async false
set_option maxRecDepth 100000
set_option maxHeartbeats 4000000
noncomputable def addE (t s : Entry) : Entry := (s.1.add t.1, addC t.2 s.2)
/-- a global def of the text is called -/
theorem callG {B : Bs} {P0 P : PM} {s0 s : Shared} {L : Addr} {m : Str → Option Value} {own : List Own} {A : Around} {E : Value → Shared → Prop} {e : Env} {ns : List Str} {x : Str} {p2 pos : Pos} {f : Addr} {a : Expr} {rest : List Expr} {Q : Value → Shared → Prop}
    (ok : Ok B) (h : St B P0 s0 P L m own s) (fe : FE e L ns) (hv : B.mg x = some (.ref f)) (hk : e.kindOf x = some .globalImplicit) (hd : (x == ("__debug__" : Str)) = false)
    (he : eval (.Call (.Name x p2) (a :: rest) [] pos) e = (do callWith pos (← eval (.Name x p2) e) [] (backTo pos (starEach (a :: rest) e)) (backToKw pos (keywordEach [] e))))
    (hs : starEach (a :: rest) e = (false, eval a e) :: starEach rest e) (hp : (backTo pos (starEach rest e)).any (·.1) = false)
    (q : wpAny (mdl B) A (spliced (backTo pos (starEach (a :: rest) e))) (fun vs s₁ => FnO s₁.heap f ∧ wpAny (mdl B) A (call (.ref f) vs) Q E s₁) E s) :
    wpAny (mdl B) A (eval (.Call (.Name x p2) (a :: rest) [] pos) e) Q E s :=
  Call_ (ldg ok h fe hv hk (callD q hs hp) hd) he

theorem spec56 {B : Bs} {P : PM} {s : Shared} {sh : Bool} (ok : Ok B) (wd : Wd B P s) {t u : Value} {a b : Entry} (ht : RE B sh P t a) (hu : RE B sh P u b) :
    Spec B (AA 500 2000) (.ref 56) [t, u] P s (fun P' v => RE B sh P' v (addE a b)) := by
  refine enterK ok wd 56 3 55 ["target", "source"] ["cc", "nc", "tt", "ct", "callers", "t_cc", "t_nc", "t_tt", "t_ct", "t_callers"] (fun p => by kernel_rfl) (fun p => by kernel_rfl) (fun p => by kernel_rfl) (fun p => by kernel_rfl) (fun p => by kernel_rfl) (fun p => ⟨⟨by kernel_rfl, by kernel_rfl⟩, by kernel_rfl, by kernel_rfl, by kernel_rfl, by kernel_rfl, by kernel_rfl⟩) (by kernel_rfl) (by kernel_rfl) rfl (by decide) ?_
  intro L s1 h fe
  dsimp only [List.cons_append, List.nil_append, List.map] at h fe
  refine seq ?_
  obtain ⟨t1, t2, t3, t4, c, rt, rc⟩ := ht
  obtain ⟨u1, u2, u3, u4, d, ru, rd⟩ := hu
  walk_at "h"
  with_reducible refine Assign_Tuple ?_ (by with_unfolding_all rfl) (by with_unfolding_all rfl)
  with_reducible refine ldv h fe (by walk_at "lk") ?_
  refine unpT (B := B) h rfl ru rfl rfl fun s1 h => ?_
  walk_at "h"
  with_reducible refine asgN h fe (by walk_at "up") fun s1 h => ?_
  with_reducible refine asgN h fe (by walk_at "up") fun s1 h => ?_
  with_reducible refine asgN h fe (by walk_at "up") fun s1 h => ?_
  with_reducible refine asgN h fe (by walk_at "up") fun s1 h => ?_
  with_reducible refine asgN h fe (by walk_at "up") fun s1 h => ?_
  with_reducible refine asg0 ?_
  walk_at "n"
  walk_at "h"
  with_reducible refine seq ?_
  walk_at "h"
  with_reducible refine Assign_Tuple ?_ (by with_unfolding_all rfl) (by with_unfolding_all rfl)
  with_reducible refine ldv h fe (by walk_at "lk") ?_
  refine unpT (B := B) h rfl rt rfl rfl fun s1 h => ?_
  walk_at "h"
  with_reducible refine asgN h fe (by walk_at "up") fun s1 h => ?_
  with_reducible refine asgN h fe (by walk_at "up") fun s1 h => ?_
  with_reducible refine asgN h fe (by walk_at "up") fun s1 h => ?_
  with_reducible refine asgN h fe (by walk_at "up") fun s1 h => ?_
  with_reducible refine asgN h fe (by walk_at "up") fun s1 h => ?_
  with_reducible refine asg0 ?_
  walk_at "n"
  with_reducible refine seq ?_
  walk_at "h"
  with_reducible refine wpAny_Return_some ?_
  walk_at "h"
  with_reducible refine Tuple_ ?_
  walk_at "h"
  with_reducible refine args_cons ?_ (by with_unfolding_all rfl)
  walk_at "h"
  with_reducible refine wpAny_BinOp ?_
  with_reducible refine ldv h fe (by walk_at "lk") ?_
  with_reducible refine ldv h fe (by walk_at "lk") ?_
  with_reducible refine addN h fun _ s1 h => ?_
  walk_at "h"
  with_reducible refine args_cons ?_ (by with_unfolding_all rfl)
  walk_at "h"
  with_reducible refine wpAny_BinOp ?_
  with_reducible refine ldv h fe (by walk_at "lk") ?_
  with_reducible refine ldv h fe (by walk_at "lk") ?_
  with_reducible refine addN h fun _ s1 h => ?_
  walk_at "h"
  with_reducible refine args_cons ?_ (by with_unfolding_all rfl)
  walk_at "h"
  with_reducible refine wpAny_BinOp ?_
  with_reducible refine ldv h fe (by walk_at "lk") ?_
  with_reducible refine ldv h fe (by walk_at "lk") ?_
  with_reducible refine addN h fun _ s1 h => ?_
  walk_at "h"
  with_reducible refine args_cons ?_ (by with_unfolding_all rfl)
  walk_at "h"
  with_reducible refine wpAny_BinOp ?_
  with_reducible refine ldv h fe (by walk_at "lk") ?_
  with_reducible refine ldv h fe (by walk_at "lk") ?_
  with_reducible refine addN h fun _ s1 h => ?_
  walk_at "h"
  with_reducible refine args_cons ?_ (by with_unfolding_all rfl)
  walk_at "h"
  refine callG ok h fe (mg63 ok) (by kernel_rfl) (by decide) (by with_unfolding_all rfl) (by with_unfolding_all rfl) (by with_unfolding_all rfl) ?_
  walk_at "h"
  with_reducible refine args_cons ?_ (by with_unfolding_all rfl)
  with_reducible refine ldv h fe (by walk_at "lk") ?_
  walk_at "h"
  with_reducible refine args_cons ?_ (by with_unfolding_all rfl)
  with_reducible refine ldv h fe (by walk_at "lk") ?_
  walk_at "h"
  with_reducible refine args_nil ?_
  refine ⟨h.fn ok (by kernel_rfl), ?_⟩
  refine callS h (addCallers ok h.wd _ _ _ _ rc rd) fun P' v s1 l hv h => ?_
  walk_at "h"
  with_reducible refine args_nil ?_
  refine newTup h fun x s1 h => ?_
  obtain ⟨P', o, l', e', i', h⟩ := h.freeze
  with_reducible refine Nx.ret ?_
  exact h.out ⟨_, _, _, _, _, ⟨_, _, rfl, e', i'⟩, hv.mono l'⟩
open PySem PySem.W PySem.W.X PyProof.Rows PySem.Calls
set_option Elab.async false
set_option maxRecDepth 100000
set_option maxHeartbeats 4000000
section
variable {B : Bs} {P0 P P1 : PM} {s0 s : Shared} {L : Addr} {m : Str → Option Value} {own : List Own} {A : Around} {E : Value → Shared → Prop} {e : Env} {ns : List Str} {vs vs' : List (Option Value)} {kvs : List (Str × Value)}
theorem onGet {d : Addr} {o : Obj} {pos : Pos} {x y : Sem Value} {Q : Value → Shared → Prop} (hd : (d == sysModules) = false) (p : s.heap.get? d = some o) (i : isDct B kvs o)
    (h : wpAny (mdl B) A x (fun key s₁ => wpAny (mdl B) A y (fun dflt s₂ => ∃ k t o', key = .str k t ∧ s₂.heap.get? d = some o' ∧ isDct B kvs o' ∧ Q ((valueAt kvs k).getD dflt) { s₂ with toks := s₂.toks + 1 }) E s₁) E s) :
    MethodOnS prg B.w A E "get" (.ref d) pos [(false, x), (false, y)] Q s := by
  refine ⟨"dict", "dict.get", F.plainAttrs_dict, F.slot_dict_get, F.type_dict_get, (i.dictOf p).typeIs, (i.dictOf p).mapOf.noDict, wpAny_dict_get2 (knd := skd B) hd (wpAny_mono h (fun key s₁ h₁ => wpAny_mono h₁ (fun dflt s₂ h₂ => ?_) fun _ _ x => x) fun _ _ x => x)⟩
  obtain ⟨k, t, o', rfl, p', i', hq⟩ := h₂
  exact ⟨k, _, str_is k t, (i'.dictOf p').mapOf, hq⟩
theorem dictOfD {d : Addr} {o : Obj} {Q : Value → Shared → Prop} (h : St B P0 s0 P L m own s) (hd : (d == sysModules) = false) (p : s.heap.get? d = some o) (i : isDct B kvs o) (hsz : kvs.length ≤ sizeLine)
    (q : ∀ a s', St B P0 s0 P L m ((a, isDct B kvs) :: own) s' → Q (.ref a) s') : wpAny (mdl B) A (call (.type "dict") [.ref d]) Q E s := by
  refine kt_call_dict (knd := skd B) hd (i.dictOf p) hsz fun h' hm hs => ?_
  obtain ⟨o', p', i'⟩ := isDct.of hm
  have h1 := h.new (p := fun _ => True) { cls := .type "dict", data := .dict #[] } rfl trivial
  have h2 := h1.chg0 hs.extBut p' i' s.toks
  exact q _ _ h2
end
theorem mg56 {B : Bs} (ok : Ok B) : B.mg "add_func_stats" = some (.ref 56) := mg_of ok.X ok.g (by kernel_rfl)
theorem mgn_dict {B : Bs} (ok : Ok B) : B.mg "dict" = none := mg_none_of ok.X ok.g (by kernel_rfl)
noncomputable def enterT (T : Table) (k : Str) (en : Entry) : Table := put T k (addE ((get T k).getD ((0, 0, 0, 0), [])) en)
/-- a pair of a name and an entry -/
inductive RP (B : Bs) (sh : Bool) (P : PM) (v : Value) (p : Str × Entry) : Prop
  | mk (t : _) (e : _) (x1 : RT P v [.str p.1 t, e]) (x2 : RE B sh P e p.2) (x3 : p.1 ∈ names6)
theorem RP.mono {B : Bs} {sh : Bool} {P P' : PM} (l : P.le P') {v : Value} {p : Str × Entry} (h : RP B sh P v p) : RP B sh P' v p := let ⟨t, e, r, x, n⟩ := h; ⟨t, e, r.mono l, x.mono l, n⟩
theorem RTb.le6 {B : Bs} {sh : Bool} {P : PM} {v : Value} {cs : Table} (h : RTb B sh P v cs) : cs.length ≤ 6 := by
  obtain ⟨kvs, a, b, c⟩ := h
  have := six_le (b.keys ▸ a.nodup) (fun x hx => by obtain ⟨c', h1, rfl⟩ := List.mem_map.mp hx; exact c _ h1)
  simpa using this

theorem spec121 {B : Bs} {P : PM} {s : Shared} {sh : Bool} (ok : Ok B) (wd : Wd B P s) {t u : Value} {T : Table} {p : Str × Entry} (ht : RTb B sh P t T) (hu : RP B sh P u p) :
    Spec B (AA 490 1990) (.ref 121) [t, u] P s (fun P' v => RTb B sh P' v (enterT T p.1 p.2)) := by
  refine enterK ok wd 121 15 120 ["table", "pair"] ["entered"] (fun p => by kernel_rfl) (fun p => by kernel_rfl) (fun p => by kernel_rfl) (fun p => by kernel_rfl) (fun p => by kernel_rfl) (fun p => ⟨⟨by kernel_rfl, by kernel_rfl⟩, by kernel_rfl, by kernel_rfl, by kernel_rfl, by kernel_rfl, by kernel_rfl⟩) (by kernel_rfl) (by kernel_rfl) rfl (by decide) ?_
  intro L s1 h fe
  dsimp only [List.cons_append, List.nil_append, List.map] at h fe
  refine seq ?_
  obtain ⟨kt, rt, dt, mt⟩ := id ht
  obtain ⟨d, o, rfl, hd, pd, i⟩ := id rt
  obtain ⟨tk, e, ru, re, hn⟩ := hu
  have h6 := ht.le6
  walk_at "h"
  with_reducible refine wpAny_Assign_Name ?_ (by with_unfolding_all rfl)
  walk_at "h"
  refine Call_ ?_
  refine ldb ok h fe (mgn_dict ok) boot_dict (by kernel_rfl) ?_
  with_reducible refine callT ?_ rfl rfl
  walk_at "h"
  with_reducible refine args_cons ?_ (by with_unfolding_all rfl)
  with_reducible refine ldv h fe (by walk_at "lk") ?_
  walk_at "h"
  with_reducible refine args_nil ?_
  refine dictOfD (B := B) h hd (h.at pd) i (by rw [dt.length, sizeLine_eq]; lia) fun a s1 h => ?_
  with_reducible refine stv h fe (by walk_at "up") fun s1 h => ?_
  walk_at "n"
  walk_at "h"
  with_reducible refine seq ?_
  walk_at "h"
  with_reducible refine wpAny_Assign_Subscript ?_ (by with_unfolding_all rfl)
  walk_at "h"
  refine callG ok h fe (mg56 ok) (by kernel_rfl) (by decide) (by with_unfolding_all rfl) (by with_unfolding_all rfl) (by with_unfolding_all rfl) ?_
  walk_at "h"
  with_reducible refine args_cons ?_ (by with_unfolding_all rfl)
  walk_at "h"
  refine Call_method2 rfl rfl rfl ?_
  with_reducible refine ldv h fe (by walk_at "lk") ?_
  have n1 := h.ne1 ok (.head _)
  obtain ⟨o1, p1, i1⟩ := h.head
  refine onGet (B := B) n1 p1 i1 ?_
  walk_at "h"
  with_reducible refine Subscript_ ?_
  with_reducible refine ldv h fe (by walk_at "lk") ?_
  with_reducible refine kint h fun _ s1 h => ?_
  refine atT h ru (by decide) (by decide) rfl ?_ (by intros; with_unfolding_all rfl)
  walk_at "h"
  with_reducible refine Tuple_ ?_
  walk_at "h"
  with_reducible refine args_cons ?_ (by with_unfolding_all rfl)
  with_reducible refine kint h fun _ s1 h => ?_
  walk_at "h"
  with_reducible refine args_cons ?_ (by with_unfolding_all rfl)
  with_reducible refine kint h fun _ s1 h => ?_
  walk_at "h"
  with_reducible refine args_cons ?_ (by with_unfolding_all rfl)
  with_reducible refine kint h fun _ s1 h => ?_
  walk_at "h"
  with_reducible refine args_cons ?_ (by with_unfolding_all rfl)
  with_reducible refine kint h fun _ s1 h => ?_
  walk_at "h"
  with_reducible refine args_cons ?_ (by with_unfolding_all rfl)
  walk_at "h"
  refine newD h fun dd s1 h => ?_
  have n2 := h.ne1 ok (.head _)
  obtain ⟨P1, o2, l1, e1, i2, h⟩ := h.freeze
  walk_at "h"
  with_reducible refine args_nil ?_
  refine newTup h fun tt s1 h => ?_
  obtain ⟨P2, o3, l2, e2, i3, h⟩ := h.freeze
  obtain ⟨o4, p4, i4⟩ := h.head
  refine ⟨_, _, o4, rfl, p4, i4, ?_⟩
  have h := h.tok (s1.toks + 1)
  have l12 := l1.trans l2
  have dt2 := dt.mono fun _ _ y => RE.mono l12 y
  have rdef : RE B sh P2 (.ref tt) ((0, 0, 0, 0), []) := ⟨_, _, _, _, _, ⟨_, _, rfl, e2, i3⟩, [], ⟨_, _, rfl, n2, l2 _ _ e1, i2⟩, .nil, fun _ hc => nomatch hc⟩
  have rget : RE B sh P2 ((valueAt kt p.1).getD (.ref tt)) ((get T p.1).getD ((0, 0, 0, 0), [])) := by
    cases hv : valueAt kt p.1 with
    | none => rw [dt2.none hv]; exact rdef
    | some w => obtain ⟨q, e1, e2⟩ := dt2.some hv; rw [e1]; exact e2
  walk_at "h"
  with_reducible refine args_cons ?_ (by with_unfolding_all rfl)
  walk_at "h"
  with_reducible refine Subscript_ ?_
  with_reducible refine ldv h fe (by walk_at "lk") ?_
  with_reducible refine kint h fun _ s1 h => ?_
  refine atT h (ru.mono l12) (by decide) (by decide) rfl ?_ (by intros; with_unfolding_all rfl)
  walk_at "h"
  with_reducible refine args_nil ?_
  refine ⟨h.fn ok (by kernel_rfl), ?_⟩
  refine callS h ((spec56 ok h.wd rget (re.mono l12)).room (by decide) (by decide)) fun P3 v s1 l3 hv h => ?_
  with_reducible refine ldv h fe (by walk_at "lk") ?_
  walk_at "h"
  with_reducible refine Subscript_ ?_
  with_reducible refine ldv h fe (by walk_at "lk") ?_
  with_reducible refine kint h fun _ s1 h => ?_
  refine atT h (ru.mono (l12.trans l3)) (by decide) (by decide) rfl ?_ (by intros; with_unfolding_all rfl)
  have dt3 := dt2.mono fun _ _ y => RE.mono l3 y
  refine setD (B := B) h (by rw [dt.length, sizeLine_eq]; lia) fun s1 h => ?_
  walk_at "n"
  with_reducible refine seq ?_
  walk_at "h"
  with_reducible refine wpAny_Return_some ?_
  with_reducible refine ldv h fe (by walk_at "lk") ?_
  with_reducible refine Nx.ret ?_
  have n3 := h.ne1 ok (.head _)
  obtain ⟨P4, o5, l4, e4, i5, h⟩ := h.freeze
  skip
  refine h.out ⟨_, ⟨_, _, rfl, n3, e4, i5⟩, (dt3.put hv).mono fun _ _ y => RE.mono l4 y, put_keys _ _ _ (· ∈ names6) mt hn⟩
open PySem PySem.W PySem.W.X PyProof.Rows PySem.Calls
set_option Elab.async false
set_option maxRecDepth 100000
set_option maxHeartbeats 4000000
section
variable {B : Bs} {P0 P P1 : PM} {s0 s : Shared} {L : Addr} {m : Str → Option Value} {own : List Own} {A : Around} {E : Value → Shared → Prop} {e : Env} {ns : List Str} {vs vs' : List (Option Value)} {kvs : List (Str × Value)}
theorem callIter {v : Value} {Q : Value → Shared → Prop} (h : wpAny (mdl B) A.in1 (pyIter v) Q E s) : wpAny (mdl B) A (call (.builtin "iter") [v]) Q E s := by
  refine call_function_entry (by decide +kernel) (by decide +kernel) kdk_entry_iter (kdk_args_iter _) ?_
  unfold Builtin.«iter»
  refine wpAny_bind (m := someArgs "iter" 1 2 _) (wpAny_of_eq (a := [v]) (by first | rfl | kernel_rfl!) ?_)
  show wpAny _ _ (pyIter v >>= _) _ _ _
  exact wpAny_bind (wpAny_mono h (fun v s' q => wpAny_pure ⟨v, rfl, q⟩) fun _ _ x => x)
theorem iterL0 (h : St B P0 s0 P L m own s) {v : Value} {xs : List Value} {Q : Value → Shared → Prop} {l : Addr} {o : Obj} (hv : v = .ref l) (p : P l = some o) (i : isLst xs o)
    (q : ∀ it s', St B P0 s0 P L m ((it, isLI l 0) :: own) s' → Q (.ref it) s') : wpAny (mdl B) A (pyIter v) Q E s := by
  subst hv
  obtain ⟨n, e⟩ := id i
  exact wpAny_pyIter_list ⟨_, h.at p, by rw [e], n, by rw [e]⟩ (q _ _ (h.new _ rfl ⟨rfl, rfl⟩))
theorem callDv {f : Addr} {pos p2 : Pos} {x : Str} {a : Expr} {rest : List Expr} {Q : Value → Shared → Prop} (h : St B P0 s0 P L (asg ns vs) own s) (fe : FE e L ns) (lk : Lk ns vs x (.ref f))
    (he : eval (.Call (.Name x p2) (a :: rest) [] pos) e = (do callWith pos (← eval (.Name x p2) e) [] (backTo pos (starEach (a :: rest) e)) (backToKw pos (keywordEach [] e))))
    (hs : starEach (a :: rest) e = (false, eval a e) :: starEach rest e) (hp : (backTo pos (starEach rest e)).any (·.1) = false)
    (q : wpAny (mdl B) A (spliced (backTo pos (starEach (a :: rest) e))) (fun vs s₁ => FnO s₁.heap f ∧ wpAny (mdl B) A (call (.ref f) vs) Q E s₁) E s) :
    wpAny (mdl B) A (eval (.Call (.Name x p2) (a :: rest) [] pos) e) Q E s := Call_ (ldv h fe lk (callD q hs hp)) he
end
theorem mgn_iter {B : Bs} (ok : Ok B) : B.mg "iter" = none := mg_none_of ok.X ok.g (by kernel_rfl)
theorem mg78 {B : Bs} (ok : Ok B) : B.mg "_initial_missing" = some (.ref 78) := mg_of ok.X ok.g (by kernel_rfl)
noncomputable def clsHere (K : Frag) (a : Addr) (c : String) : Bool := match K.lookup a with
  | some o => o.cls == .type c
  | none => false
theorem clsHere_of {K : Frag} {a : Addr} {c : String} (h : clsHere K a c = true) : ∃ o, K.lookup a = some o ∧ o.cls = .type c := by
  unfold clsHere at h
  split at h
  · rename_i o e; exact ⟨o, e, by simpa using h⟩
  · cases h
theorem obj78 (p : Params) : ∃ o, (hz.heap_157 p).lookup 78 = some o ∧ o.cls = .type "object" := clsHere_of (by kernel_rfl)
theorem tup79 (p : Params) : (hz.heap_157 p).lookup 79 = some { cls := .type "tuple", data := .seq #[.ref 78] } := by kernel_rfl
/-- reduce with an initial value -/
theorem spec86 {B : Bs} {P : PM} {s : Shared} (ok : Ok B) (wd : Wd B P s) {f d0 : Addr} {o0 : Obj} {sq : Value} {xs : List Value} {d u : Nat} (hroom : d < recursionLimit) (hf : ∀ p, fnHere (hz.heap_157 p) f = true) (hft : f ∉ tabs) (rs : RL P sq xs) (p0 : P d0 = some o0) (c0 : o0.cls = .type "dict")
    (I : Nat → PM → Value → Prop) (hI : I 0 P (.ref d0)) (mono : ∀ k P P' v, P.le P' → I k P v → I k P' v)
    (step : ∀ k x P' s' v, xs[k]? = some x → P.le P' → I k P' v → Wd B P' s' → Spec B (AA (d + 1) (u + 3)) (.ref f) [v, x] P' s' (fun P'' v' => I (k + 1) P'' v')) :
    Spec B (AA d u) (.ref 86) [.ref f, sq, .ref d0] P s (fun P' v => I xs.length P' v) := by
  refine enterKB ok wd 86 9 85 ["function", "sequence", "initial"] ["it", "value", "element"] (fun p => by kernel_rfl) (fun p => by kernel_rfl) (fun p => by kernel_rfl) (fun p => by kernel_rfl) (kp_binds (wd.kb ok) (fun S => by kernel_rfl)) (fun p => ⟨⟨by kernel_rfl, by kernel_rfl⟩, by kernel_rfl, by kernel_rfl, by kernel_rfl, by kernel_rfl, by kernel_rfl⟩) (by kernel_rfl) (by kernel_rfl) rfl hroom ?_
  intro L s1 h fe
  dsimp only [List.cons_append, List.nil_append, List.map] at h fe
  refine seq ?_
  obtain ⟨l, o, rfl, pl, il⟩ := id rs
  walk_at "h"
  with_reducible refine wpAny_Assign_Name ?_ (by with_unfolding_all rfl)
  walk_at "h"
  refine Call_ ?_
  refine ldb ok h fe (mgn_iter ok) boot_iter (by kernel_rfl) ?_
  with_reducible refine callB ?_ rfl rfl
  walk_at "h"
  with_reducible refine args_cons ?_ (by with_unfolding_all rfl)
  with_reducible refine ldv h fe (by walk_at "lk") ?_
  walk_at "h"
  with_reducible refine args_nil ?_
  refine callIter (B := B) ?_
  refine iterL0 (B := B) h rfl pl il fun it s1 h => ?_
  with_reducible refine stv h fe (by walk_at "up") fun s1 h => ?_
  walk_at "n"
  walk_at "h"
  with_reducible refine seq ?_
  walk_at "h"
  with_reducible refine wpAny_If ?_
  with_reducible refine wpAny_isTrue_Compare1 ?_ (by with_unfolding_all rfl)
  with_reducible refine ldv h fe (by walk_at "lk") ?_
  refine ldg ok h fe (mg78 ok) (by kernel_rfl) ?_
  obtain ⟨o78, e78, c78⟩ := obj78 B.w.params
  have g78 := h.wd.base (ok.X _ _ e78) (by decide)
  have gd := h.at p0
  refine wpAny_is_ref_other (fun q => ?_) gd g78 (by rw [c0]; decide) ?_
  · rw [q, g78] at gd; cases gd; rw [c78] at c0; exact absurd c0 (by decide)
  with_reducible refine wpAny_truthy_bool ?_
  first | walk_at "n" | rw [if_neg Bool.false_ne_true]
  with_reducible refine seq ?_
  walk_at "h"
  with_reducible refine wpAny_Assign_Name ?_ (by with_unfolding_all rfl)
  with_reducible refine ldv h fe (by walk_at "lk") ?_
  with_reducible refine stv h fe (by walk_at "up") fun s1 h => ?_
  walk_at "n"
  with_reducible refine seq0 ?_
  walk_at "n"
  with_reducible refine seq ?_
  walk_at "h"
  refine wpAny_For ?_
  with_reducible refine ldv h fe (by walk_at "lk") ?_
  have hit : Itr B (AA (d + 1) (u + 3)) P it xs.length (fun k v => xs[k]? = some v) (isLI l) := Itr.list rfl pl il
  refine selfLI h ?_
  refine forItr (B := B) hit (fun k P' vs own => own = [] ∧ ∃ v x, vs = [some (.ref f), some (.ref l), some (.ref d0), some (.ref it), some v, x] ∧ I k P' v) ⟨rfl, _, _, rfl, hI⟩ h ?_ ?_
  · rintro k P' vs' own' x s1 hk hx l1 ⟨rfl, v, y, rfl, iv⟩ h
    with_reducible refine stb h fe (by walk_at "up") fun s1 h => ?_
    walk_at "h"
    with_reducible refine seq ?_
    walk_at "h"
    with_reducible refine wpAny_Assign_Name ?_ (by with_unfolding_all rfl)
    walk_at "h"
    refine callDv h fe (by walk_at "lk") (by with_unfolding_all rfl) (by with_unfolding_all rfl) (by with_unfolding_all rfl) ?_
    walk_at "h"
    with_reducible refine args_cons ?_ (by with_unfolding_all rfl)
    with_reducible refine ldv h fe (by walk_at "lk") ?_
    walk_at "h"
    with_reducible refine args_cons ?_ (by with_unfolding_all rfl)
    with_reducible refine ldv h fe (by walk_at "lk") ?_
    walk_at "h"
    with_reducible refine args_nil ?_
    refine ⟨h.fn ok (hf _) hft, ?_⟩
    refine callS h (step k x P' s1 v hx l1 iv h.wd) fun P'' v' s1 l2 iv' h => ?_
    with_reducible refine stv h fe (by walk_at "up") fun s1 h => ?_
    walk_at "n"
    with_reducible refine seq0 ?_
    refine Lp.next ⟨P'', _, _, l1.trans l2, ⟨rfl, _, _, rfl, iv'⟩, h⟩
  · rintro P' vs' own' s1 l1 ⟨rfl, v, y, rfl, iv⟩ h
    walk_at "n"
    with_reducible refine seq ?_
    walk_at "h"
    with_reducible refine wpAny_Return_some ?_
    with_reducible refine ldv h fe (by walk_at "lk") ?_
    with_reducible refine Nx.ret ?_
    exact h.out iv
open PySem PySem.W PySem.W.X PyProof.Rows PySem.Calls
set_option Elab.async false
set_option maxRecDepth 100000
set_option maxHeartbeats 4000000
inductive LR {α : Type} (R : Value → α → Prop) : List Value → List α → Prop
  | nil : LR R [] []
  | cons {v : Value} {a : α} {vs : List Value} {as : List α} : R v a → LR R vs as → LR R (v :: vs) (a :: as)
section
variable {α : Type} {R R' : Value → α → Prop} {vs : List Value} {as : List α} {v : Value} {a : α}
theorem LR.mono (h : LR R vs as) (f : ∀ v q, R v q → R' v q) : LR R' vs as := by
  induction h with
  | nil => exact .nil
  | cons a _ ih => exact .cons (f _ _ a) ih
theorem LR.length (h : LR R vs as) : vs.length = as.length := by induction h <;> simp_all
theorem LR.append (h : LR R vs as) {vs' : List Value} {as' : List α} (h' : LR R vs' as') : LR R (vs ++ vs') (as ++ as') := by
  induction h with
  | nil => exact h'
  | cons a _ ih => exact .cons a ih
theorem LR.snoc (h : LR R vs as) (r : R v a) : LR R (vs ++ [v]) (as ++ [a]) := h.append (.cons r .nil)
theorem LR.at (h : LR R vs as) {n : Nat} (e : vs[n]? = some v) : ∃ a, as[n]? = some a ∧ R v a := by
  induction h generalizing n with
  | nil => simp at e
  | cons a _ ih => cases n with
    | zero => simp at e; subst e; exact ⟨_, rfl, a⟩
    | succ n => exact ih (by simpa using e)
theorem LR.at' (h : LR R vs as) {n : Nat} (e : as[n]? = some a) : ∃ v, vs[n]? = some v ∧ R v a := by
  induction h generalizing n with
  | nil => simp at e
  | cons a _ ih => cases n with
    | zero => simp at e; subst e; exact ⟨_, rfl, a⟩
    | succ n => exact ih (by simpa using e)
end
structure Cl where
  f : Int
  g : Int
  r : Int
  p : Int
  o : Int
  x : Int
noncomputable def callOf (n : Int) : Cl := ⟨(n.fmod 3024).fmod 6, ((n.fmod 3024).fdiv 6).fmod 7, ((n.fmod 3024).fdiv 42).fmod 3, ((n.fmod 3024).fdiv 126).fmod 2, ((n.fmod 3024).fdiv 252).fmod 4, (n.fmod 3024).fdiv 1008⟩
inductive RCl (P : PM) (v : Value) (c : Cl) : Prop
  | mk (t1 : _) (t2 : _) (t3 : _) (t4 : _) (t5 : _) (t6 : _) (x1 : RT P v [.int c.f t1, .int c.g t2, .int c.r t3, .int c.p t4, .int c.o t5, .int c.x t6])
theorem RCl.mono {P P' : PM} (l : P.le P') {v : Value} {c : Cl} (h : RCl P v c) : RCl P' v c := let ⟨a, b, c, d, e, f, r⟩ := h; ⟨a, b, c, d, e, f, r.mono l⟩
inductive RLs {α : Type} (R : PM → Value → α → Prop) (P : PM) (v : Value) (as : List α) : Prop
  | mk (vs : _) (x1 : RL P v vs) (x2 : LR (R P) vs as)
noncomputable def RI (_ : PM) (v : Value) (i : Int) : Prop := ∃ t, v = .int i t
section
variable {B : Bs} {P0 P P1 : PM} {s0 s : Shared} {L : Addr} {m : Str → Option Value} {own : List Own} {A : Around} {E : Value → Shared → Prop} {e : Env} {ns : List Str} {vs vs' : List (Option Value)} {kvs : List (Str × Value)} {prog : Program} {w : World}
theorem fdivN {a b : Int} {t u : Tok} {Q : Value → Shared → Prop} (h : St B P0 s0 P L m own s) (hb : b ≠ 0) (hl : b.natAbs < 1073741824) (q : ∀ t s', St B P0 s0 P L m own s' → Q (.int (a.fdiv b) t) s') : wpAny (model prog w) A (binaryOp .FloorDiv (.int a t) (.int b u)) Q E s := floordiv_int hb (q _ _ (h.tok _)) (.inl (PyProof.noPylong_small hl))
/-- name.append(elt) -/
theorem appL {on : Str} {elt : Expr} {opos apos pos : Pos} {d : Addr} {xs : List Value} {Q : Value → Shared → Prop} (h : St B P0 s0 P L (asg ns vs) own s) (fe : FE e L ns) (lk : Lk ns vs on (.ref d)) {o : Obj} (po : s.heap.get? d = some o) (io : isLst xs o)
    (hbase : attributeBase (.Name on opos) "append" e (eval (.Name on opos) e) = eval (.Name on opos) e) (hline : (apos.endLine == pos.line) = true) (htrees : backTo pos (starEach [elt] e) = [(false, eval elt e)])
    (q : wpAny (mdl B) A (eval elt e) (fun y s₂ => wpAny (mdl B) A (call (.builtin "list.append") [.ref d, y]) Q E s₂) E s) :
    wpAny (mdl B) A (eval (.Call (.Attribute (.Name on opos) "append" apos) [elt] [] pos) e) Q E s := by
  obtain ⟨n, rfl⟩ := io
  refine wpAny_Call_append hbase (by rw [htrees]; rfl) hline htrees (ldv h fe lk ⟨d, xs.toArray, rfl, ⟨_, n, po, rfl, rfl, rfl⟩, q⟩)
theorem appD {d : Addr} {xs : List Value} {y : Value} {Q : Value → Shared → Prop} (h : St B P0 s0 P L m ((d, isLst xs) :: own) s) (hsz : xs.length ≤ sizeLine)
    (q : ∀ s', St B P0 s0 P L m ((d, isLst (xs ++ [y])) :: own) s' → Q .none s') : wpAny (mdl B) A (call (.builtin "list.append") [.ref d, y]) Q E s := by
  obtain ⟨o, p, n, rfl⟩ := h.head
  refine wpAny_call_entry slot_list_append ⟨_, p, rfl⟩ entry_list_append ?_ (args_list_append _ _)
  show wpAny _ _ (updateSeq d (·.push y) >>= fun _ => ret .none) _ _ s
  refine wpAny_bind ?_
  refine wpAny_updateSeq p rfl (wpAny_pure ⟨.none, rfl, q _ (h.chg0 (Heap.SameBut.update ..).extBut (get?_update_seq (c := "list") p (·.push y)) ⟨_, by simp [seqObj]; rfl⟩ s.toks)⟩) (by simpa using hsz) (by simpa using hsz)
theorem exprS {x : Expr} {pos : Pos} {Q : Flow → Shared → Prop} (h : wpAny (mdl B) A (eval x e) (fun v s' => v = .none ∧ Q .next s') E s) (hi : interactive e = false) (hs : swapsWith x none pos.line e = pure false) : wpAny (mdl B) A (exec (.Expr x pos) e) Q E s :=
  wpAny_Expr (wpAny_mono h (fun v s' q => by obtain ⟨rfl, q⟩ := q; exact q) fun _ _ x => x) hi hs
end
/-- a loop over a list that a name holds -/
theorem spec107 {B : Bs} {P : PM} {s : Shared} (ok : Ok B) (wd : Wd B P s) {v : Value} {xs : List Int} (hx : xs.length ≤ 10) (r : RLs RI P v xs) :
    Spec B (AA 470 1970) (.ref 107) [v] P s (fun P' v => RLs RCl P' v (xs.map callOf)) := by
  refine enterK ok wd 107 13 106 ["numbers"] ["calls", "x", "y"] (fun p => by kernel_rfl) (fun p => by kernel_rfl) (fun p => by kernel_rfl) (fun p => by kernel_rfl) (fun p => by kernel_rfl) (fun p => ⟨⟨by kernel_rfl, by kernel_rfl⟩, by kernel_rfl, by kernel_rfl, by kernel_rfl, by kernel_rfl, by kernel_rfl⟩) (by kernel_rfl) (by kernel_rfl) rfl (by decide) ?_
  intro L s1 h fe
  dsimp only [List.cons_append, List.nil_append, List.map] at h fe
  refine seq ?_
  obtain ⟨vx, rl, lr⟩ := r
  walk_at "h"
  with_reducible refine wpAny_Assign_Name ?_ (by with_unfolding_all rfl)
  walk_at "h"
  with_reducible refine List_ ?_
  walk_at "h"
  with_reducible refine args_nil ?_
  refine newLst h fun d s1 h => ?_
  with_reducible refine stv h fe (by walk_at "up") fun s1 h => ?_
  walk_at "n"
  walk_at "h"
  with_reducible refine seq ?_
  walk_at "h"
  refine wpAny_For ?_
  with_reducible refine ldv h fe (by walk_at "lk") ?_
  refine iterL (B := B) h rfl rl fun it p s1 hit h => ?_
  have h := h
  refine forItr (B := B) hit (fun k P' vs own => ∃ vc a b, own = [(d, isLst vc)] ∧ LR (RCl P') vc ((xs.take k).map callOf) ∧ vs = [some v, some (.ref d), a, b]) ⟨_, _, _, rfl, .nil, rfl⟩ h ?_ ?_
  · rintro k P' vs' own' x s1 hk hv l1 ⟨vc, a, b, rfl, lc, rfl⟩ h
    obtain ⟨i, ei, t, rfl⟩ := lr.at hv
    have len := lc.length
    rw [List.length_map, List.length_take] at len
    with_reducible refine stb h fe (by walk_at "up") fun s1 h => ?_
    walk_at "h"
    with_reducible refine seq ?_
    walk_at "h"
    with_reducible refine wpAny_Assign_Name ?_ (by with_unfolding_all rfl)
    walk_at "h"
    with_reducible refine wpAny_BinOp ?_
    with_reducible refine ldv h fe (by walk_at "lk") ?_
    with_reducible refine kint h fun _ s1 h => ?_
    first | (with_reducible refine modN h (by decide) fun _ s1 h => ?_) | (with_reducible refine fdivN h (by decide) (by decide) fun _ s1 h => ?_)
    with_reducible refine stv h fe (by walk_at "up") fun s1 h => ?_
    walk_at "n"
    with_reducible refine seq ?_
    walk_at "h"
    have h := h.swap
    refine exprS ?_ (by with_unfolding_all rfl) (by with_unfolding_all rfl)
    obtain ⟨oA, pA, iA⟩ := h.head
    refine appL h fe (by walk_at "lk") pA iA (by with_unfolding_all rfl) (by with_unfolding_all rfl) (by with_unfolding_all rfl) ?_
    walk_at "h"
    with_reducible refine Tuple_ ?_
    walk_at "h"
    with_reducible refine args_cons ?_ (by with_unfolding_all rfl)
    walk_at "h"
    with_reducible refine wpAny_BinOp ?_
    with_reducible refine ldv h fe (by walk_at "lk") ?_
    with_reducible refine kint h fun _ s1 h => ?_
    first | (with_reducible refine modN h (by decide) fun _ s1 h => ?_) | (with_reducible refine fdivN h (by decide) (by decide) fun _ s1 h => ?_)
    walk_at "h"
    with_reducible refine args_cons ?_ (by with_unfolding_all rfl)
    walk_at "h"
    with_reducible refine wpAny_BinOp ?_
    walk_at "h"
    with_reducible refine wpAny_BinOp ?_
    with_reducible refine ldv h fe (by walk_at "lk") ?_
    with_reducible refine kint h fun _ s1 h => ?_
    first | (with_reducible refine modN h (by decide) fun _ s1 h => ?_) | (with_reducible refine fdivN h (by decide) (by decide) fun _ s1 h => ?_)
    with_reducible refine kint h fun _ s1 h => ?_
    first | (with_reducible refine modN h (by decide) fun _ s1 h => ?_) | (with_reducible refine fdivN h (by decide) (by decide) fun _ s1 h => ?_)
    walk_at "h"
    with_reducible refine args_cons ?_ (by with_unfolding_all rfl)
    walk_at "h"
    with_reducible refine wpAny_BinOp ?_
    walk_at "h"
    with_reducible refine wpAny_BinOp ?_
    with_reducible refine ldv h fe (by walk_at "lk") ?_
    with_reducible refine kint h fun _ s1 h => ?_
    first | (with_reducible refine modN h (by decide) fun _ s1 h => ?_) | (with_reducible refine fdivN h (by decide) (by decide) fun _ s1 h => ?_)
    with_reducible refine kint h fun _ s1 h => ?_
    first | (with_reducible refine modN h (by decide) fun _ s1 h => ?_) | (with_reducible refine fdivN h (by decide) (by decide) fun _ s1 h => ?_)
    walk_at "h"
    with_reducible refine args_cons ?_ (by with_unfolding_all rfl)
    walk_at "h"
    with_reducible refine wpAny_BinOp ?_
    walk_at "h"
    with_reducible refine wpAny_BinOp ?_
    with_reducible refine ldv h fe (by walk_at "lk") ?_
    with_reducible refine kint h fun _ s1 h => ?_
    first | (with_reducible refine modN h (by decide) fun _ s1 h => ?_) | (with_reducible refine fdivN h (by decide) (by decide) fun _ s1 h => ?_)
    with_reducible refine kint h fun _ s1 h => ?_
    first | (with_reducible refine modN h (by decide) fun _ s1 h => ?_) | (with_reducible refine fdivN h (by decide) (by decide) fun _ s1 h => ?_)
    walk_at "h"
    with_reducible refine args_cons ?_ (by with_unfolding_all rfl)
    walk_at "h"
    with_reducible refine wpAny_BinOp ?_
    walk_at "h"
    with_reducible refine wpAny_BinOp ?_
    with_reducible refine ldv h fe (by walk_at "lk") ?_
    with_reducible refine kint h fun _ s1 h => ?_
    first | (with_reducible refine modN h (by decide) fun _ s1 h => ?_) | (with_reducible refine fdivN h (by decide) (by decide) fun _ s1 h => ?_)
    with_reducible refine kint h fun _ s1 h => ?_
    first | (with_reducible refine modN h (by decide) fun _ s1 h => ?_) | (with_reducible refine fdivN h (by decide) (by decide) fun _ s1 h => ?_)
    walk_at "h"
    with_reducible refine args_cons ?_ (by with_unfolding_all rfl)
    walk_at "h"
    with_reducible refine wpAny_BinOp ?_
    with_reducible refine ldv h fe (by walk_at "lk") ?_
    with_reducible refine kint h fun _ s1 h => ?_
    first | (with_reducible refine modN h (by decide) fun _ s1 h => ?_) | (with_reducible refine fdivN h (by decide) (by decide) fun _ s1 h => ?_)
    walk_at "h"
    with_reducible refine args_nil ?_
    refine newTup h fun tt s1 h => ?_
    obtain ⟨P2, o3, l2, e2, i3, h⟩ := h.freeze
    refine appD (B := B) h (by rw [len, sizeLine_eq]; lia) fun s1 h => ?_
    refine ⟨rfl, ?_⟩
    walk_at "n"
    with_reducible refine seq0 ?_
    refine Lp.next ⟨P2, _, _, l1.trans l2, ⟨_, _, _, rfl, ?_, rfl⟩, h.swap⟩
    have e1 : (xs.take (k + 1)).map callOf = (xs.take k).map callOf ++ [callOf i] := by rw [List.take_add_one, ei]; simp
    rw [e1]
    exact (lc.mono fun _ _ y => RCl.mono l2 y).snoc ⟨_, _, _, _, _, _, _, _, rfl, e2, i3⟩
  · rintro P' vs' own' s1 l1 ⟨vc, a, b, rfl, lc, rfl⟩ h
    walk_at "n"
    with_reducible refine seq ?_
    walk_at "h"
    with_reducible refine wpAny_Return_some ?_
    with_reducible refine ldv h fe (by walk_at "lk") ?_
    with_reducible refine Nx.ret ?_
    obtain ⟨P2, o3, l2, e2, i3, h⟩ := h.freeze
    refine h.out ⟨_, ⟨_, _, rfl, e2, i3⟩, ?_⟩
    rw [lr.length, List.take_length] at lc
    exact lc.mono fun _ _ y => RCl.mono l2 y
open PySem PySem.W PySem.W.X PyProof.Rows PySem.Calls
set_option Elab.async false
set_option maxRecDepth 100000
set_option maxHeartbeats 4000000
theorem spec93 {B : Bs} {P : PM} {s : Shared} (ok : Ok B) (wd : Wd B P s) : Spec B (AA 600 4000) (.ref 93) [] P s (fun P' v => RFs P' v) := by
  refine enterK ok wd 93 11 92 [] [] (fun p => by kernel_rfl) (fun p => by kernel_rfl) (fun p => by kernel_rfl) (fun p => by kernel_rfl) (fun p => by kernel_rfl) (fun p => ⟨⟨by kernel_rfl, by kernel_rfl⟩, by kernel_rfl, by kernel_rfl, by kernel_rfl, by kernel_rfl, by kernel_rfl⟩) (by kernel_rfl) (by kernel_rfl) rfl (by decide) ?_
  intro L s1 h fe
  dsimp only [List.cons_append, List.nil_append, List.map] at h fe
  refine seq ?_
  walk_at "h"
  with_reducible refine wpAny_Return_some ?_
  walk_at "h"
  with_reducible refine List_ ?_
  walk_at "h"
  with_reducible refine args_cons ?_ (by with_unfolding_all rfl)
  walk_at "h"
  with_reducible refine Tuple_ ?_
  walk_at "h"
  with_reducible refine args_cons ?_ (by with_unfolding_all rfl)
  with_reducible refine kstr h fun _ s1 h => ?_
  walk_at "h"
  with_reducible refine args_cons ?_ (by with_unfolding_all rfl)
  with_reducible refine kint h fun _ s1 h => ?_
  walk_at "h"
  with_reducible refine args_cons ?_ (by with_unfolding_all rfl)
  with_reducible refine kstr h fun _ s1 h => ?_
  walk_at "h"
  with_reducible refine args_cons ?_ (by with_unfolding_all rfl)
  with_reducible refine kstr h fun _ s1 h => ?_
  walk_at "h"
  with_reducible refine args_nil ?_
  with_reducible refine newTup h (fun a1 s1 h => ?_) (by rw [sizeLine_eq]; exact Nat.le_of_ble_eq_true rfl)
  obtain ⟨P1, o1, l1, e1, i1, h⟩ := h.freeze
  have r1 : RFn P1 (.ref a1) ("~", 0, "<sum>", "{sum}") := ⟨_, _, _, _, _, _, rfl, e1, i1⟩
  walk_at "h"
  with_reducible refine args_cons ?_ (by with_unfolding_all rfl)
  walk_at "h"
  with_reducible refine Tuple_ ?_
  walk_at "h"
  with_reducible refine args_cons ?_ (by with_unfolding_all rfl)
  with_reducible refine kstr h fun _ s1 h => ?_
  walk_at "h"
  with_reducible refine args_cons ?_ (by with_unfolding_all rfl)
  with_reducible refine kint h fun _ s1 h => ?_
  walk_at "h"
  with_reducible refine args_cons ?_ (by with_unfolding_all rfl)
  with_reducible refine kstr h fun _ s1 h => ?_
  walk_at "h"
  with_reducible refine args_cons ?_ (by with_unfolding_all rfl)
  with_reducible refine kstr h fun _ s1 h => ?_
  walk_at "h"
  with_reducible refine args_nil ?_
  with_reducible refine newTup h (fun a2 s1 h => ?_) (by rw [sizeLine_eq]; exact Nat.le_of_ble_eq_true rfl)
  obtain ⟨P2, o2, l2, e2, i2, h⟩ := h.freeze
  have r2 : RFn P2 (.ref a2) ("~", 0, "<go", "<go") := ⟨_, _, _, _, _, _, rfl, e2, i2⟩
  walk_at "h"
  with_reducible refine args_cons ?_ (by with_unfolding_all rfl)
  walk_at "h"
  with_reducible refine Tuple_ ?_
  walk_at "h"
  with_reducible refine args_cons ?_ (by with_unfolding_all rfl)
  with_reducible refine kstr h fun _ s1 h => ?_
  walk_at "h"
  with_reducible refine args_cons ?_ (by with_unfolding_all rfl)
  with_reducible refine kint h fun _ s1 h => ?_
  walk_at "h"
  with_reducible refine args_cons ?_ (by with_unfolding_all rfl)
  with_reducible refine kstr h fun _ s1 h => ?_
  walk_at "h"
  with_reducible refine args_cons ?_ (by with_unfolding_all rfl)
  with_reducible refine kstr h fun _ s1 h => ?_
  walk_at "h"
  with_reducible refine args_nil ?_
  with_reducible refine newTup h (fun a3 s1 h => ?_) (by rw [sizeLine_eq]; exact Nat.le_of_ble_eq_true rfl)
  obtain ⟨P3, o3, l3, e3, i3, h⟩ := h.freeze
  have r3 : RFn P3 (.ref a3) ("~", 1, "<sum>", "~:1(<sum>)") := ⟨_, _, _, _, _, _, rfl, e3, i3⟩
  walk_at "h"
  with_reducible refine args_cons ?_ (by with_unfolding_all rfl)
  walk_at "h"
  with_reducible refine Tuple_ ?_
  walk_at "h"
  with_reducible refine args_cons ?_ (by with_unfolding_all rfl)
  with_reducible refine kstr h fun _ s1 h => ?_
  walk_at "h"
  with_reducible refine args_cons ?_ (by with_unfolding_all rfl)
  with_reducible refine kint h fun _ s1 h => ?_
  walk_at "h"
  with_reducible refine args_cons ?_ (by with_unfolding_all rfl)
  with_reducible refine kstr h fun _ s1 h => ?_
  walk_at "h"
  with_reducible refine args_cons ?_ (by with_unfolding_all rfl)
  with_reducible refine kstr h fun _ s1 h => ?_
  walk_at "h"
  with_reducible refine args_nil ?_
  with_reducible refine newTup h (fun a4 s1 h => ?_) (by rw [sizeLine_eq]; exact Nat.le_of_ble_eq_true rfl)
  obtain ⟨P4, o4, l4, e4, i4, h⟩ := h.freeze
  have r4 : RFn P4 (.ref a4) ("", 0, "go", ":0(go)") := ⟨_, _, _, _, _, _, rfl, e4, i4⟩
  walk_at "h"
  with_reducible refine args_cons ?_ (by with_unfolding_all rfl)
  walk_at "h"
  with_reducible refine Tuple_ ?_
  walk_at "h"
  with_reducible refine args_cons ?_ (by with_unfolding_all rfl)
  with_reducible refine kstr h fun _ s1 h => ?_
  walk_at "h"
  with_reducible refine args_cons ?_ (by with_unfolding_all rfl)
  walk_at "h"
  with_reducible refine UnaryOp_ ?_
  with_reducible refine kint h fun _ s1 h => ?_
  with_reducible refine negN h fun _ s1 h => ?_
  walk_at "h"
  with_reducible refine args_cons ?_ (by with_unfolding_all rfl)
  with_reducible refine kstr h fun _ s1 h => ?_
  walk_at "h"
  with_reducible refine args_cons ?_ (by with_unfolding_all rfl)
  with_reducible refine kstr h fun _ s1 h => ?_
  walk_at "h"
  with_reducible refine args_nil ?_
  with_reducible refine newTup h (fun a5 s1 h => ?_) (by rw [sizeLine_eq]; exact Nat.le_of_ble_eq_true rfl)
  obtain ⟨P5, o5, l5, e5, i5, h⟩ := h.freeze
  have r5 : RFn P5 (.ref a5) ("a.py", -12, "go", "a.py:-12(go)") := ⟨_, _, _, _, _, _, rfl, e5, i5⟩
  walk_at "h"
  with_reducible refine args_cons ?_ (by with_unfolding_all rfl)
  walk_at "h"
  with_reducible refine Tuple_ ?_
  walk_at "h"
  with_reducible refine args_cons ?_ (by with_unfolding_all rfl)
  with_reducible refine kstr h fun _ s1 h => ?_
  walk_at "h"
  with_reducible refine args_cons ?_ (by with_unfolding_all rfl)
  with_reducible refine kint h fun _ s1 h => ?_
  walk_at "h"
  with_reducible refine args_cons ?_ (by with_unfolding_all rfl)
  with_reducible refine kstr h fun _ s1 h => ?_
  walk_at "h"
  with_reducible refine args_cons ?_ (by with_unfolding_all rfl)
  with_reducible refine kstr h fun _ s1 h => ?_
  walk_at "h"
  with_reducible refine args_nil ?_
  with_reducible refine newTup h (fun a6 s1 h => ?_) (by rw [sizeLine_eq]; exact Nat.le_of_ble_eq_true rfl)
  obtain ⟨P6, o6, l6, e6, i6, h⟩ := h.freeze
  have r6 : RFn P6 (.ref a6) ("~", 0, "go>", "go>") := ⟨_, _, _, _, _, _, rfl, e6, i6⟩
  walk_at "h"
  with_reducible refine args_nil ?_
  with_reducible refine newLst h (fun a7 s1 h => ?_) (by rw [sizeLine_eq]; exact Nat.le_of_ble_eq_true rfl)
  obtain ⟨P7, o7, l7, e7, i7, h⟩ := h.freeze
  with_reducible refine Nx.ret ?_
  have l6 := l6.trans l7
  have l5 := l5.trans l6
  have l4 := l4.trans l5
  have l3 := l3.trans l4
  have l2 := l2.trans l3
  exact h.out ⟨_, _, _, _, _, _, ⟨_, _, rfl, e7, i7⟩, r1.mono l2, r2.mono l3, r3.mono l4, r4.mono l5, r5.mono l6, r6.mono l7⟩
open PySem PySem.W PySem.W.X PyProof.Rows PySem.Calls
set_option Elab.async false
set_option maxRecDepth 100000
set_option maxHeartbeats 4000000
theorem mg49 {B : Bs} (ok : Ok B) : B.mg "func_std_string" = some (.ref 49) := mg_of ok.X ok.g (by kernel_rfl)
theorem mg93 {B : Bs} (ok : Ok B) : B.mg "_law_functions" = some (.ref 93) := mg_of ok.X ok.g (by kernel_rfl)
theorem mg114 {B : Bs} (ok : Ok B) : B.mg "_law_entry" = some (.ref 114) := mg_of ok.X ok.g (by kernel_rfl)
theorem mg86 {B : Bs} (ok : Ok B) : B.mg "reduce" = some (.ref 86) := mg_of ok.X ok.g (by kernel_rfl)
theorem mg121 {B : Bs} (ok : Ok B) : B.mg "_law_enter" = some (.ref 121) := mg_of ok.X ok.g (by kernel_rfl)
noncomputable def nameAt (i : Int) : Str := ((fnTab[i.toNat]?).map (·.2.2.2)).getD ""
theorem RFs.rls {P : PM} {v : Value} (h : RFs P v) : RLs RFn P v fnTab := by
  obtain ⟨v0, v1, v2, v3, v4, v5, r, a, b, c, d, e, f⟩ := h
  exact ⟨_, r, .cons a (.cons b (.cons c (.cons d (.cons e (.cons f .nil)))))⟩
theorem fnTab_at {i : Int} (h0 : 0 ≤ i) (h6 : i < 6) : ∃ f, fnTab[i.toNat]? = some f ∧ f ∈ fnTab ∧ nameAt i = f.2.2.2 := by
  have hlt : i.toNat < fnTab.length := by simp [fnTab]; lia
  refine ⟨fnTab[i.toNat], by simp [hlt], List.getElem_mem hlt, ?_⟩
  unfold nameAt
  simp [hlt]
theorem names6_of {f : Str × Int × Str × Str} (h : f ∈ fnTab) : f.2.2.2 ∈ names6 := by
  simp only [fnTab, List.mem_cons, List.not_mem_nil, or_false] at h
  rcases h with rfl | rfl | rfl | rfl | rfl | rfl <;> simp [names6]
noncomputable def entryOf (c : Cl) : Entry := ((c.p, 1, c.o, c.o + c.x), if c.g < 6 then [(nameAt c.g, (1, c.p, c.o, c.o + c.x))] else [])
theorem put_one {α : Type} (k : Str) (q : α) : put [] k q = [(k, q)] := rfl
theorem spec114 {B : Bs} {P : PM} {s : Shared} {sh : Bool} (ok : Ok B) (wd : Wd B P s) {v : Value} {c : Cl} (r : RCl P v c) (h0 : 0 ≤ c.g) :
    Spec B (AA 480 1980) (.ref 114) [v, .bool sh] P s (fun P' v => RE B sh P' v (entryOf c)) := by
  refine enterK ok wd 114 14 113 ["call", "short"] ["callers", "name"] (fun p => by kernel_rfl) (fun p => by kernel_rfl) (fun p => by kernel_rfl) (fun p => by kernel_rfl) (fun p => by kernel_rfl) (fun p => ⟨⟨by kernel_rfl, by kernel_rfl⟩, by kernel_rfl, by kernel_rfl, by kernel_rfl, by kernel_rfl, by kernel_rfl⟩) (by kernel_rfl) (by kernel_rfl) rfl (by decide) ?_
  intro L s1 h fe
  dsimp only [List.cons_append, List.nil_append, List.map] at h fe
  refine seq ?_
  obtain ⟨t1, t2, t3, t4, t5, t6, r⟩ := r
  have tail : ∀ {P1 : PM} {s1 : Shared} {d : Addr} {kvs : List (Str × Value)} {x : Option Value} {cs : Callers}, P.le P1 → St B P s P1 L (asg ["call", "short", "callers", "name"] [some v, some (.bool sh), some (.ref d), x]) [(d, isDct B kvs)] s1 → DR (RPart sh P1) kvs cs → (∀ c ∈ cs, c.1 ∈ names6) → (entryOf c).2 = cs →
      wpAny (mdl B) (AA (480 + 1) (1980 + 3)) (execs (bodyAt 14).tail.tail (env B 114 L)) (fun fl s' => Out B P s (fun P' v => RE B sh P' v (entryOf c)) (match fl with | .ret v => v | _ => .none) s') (fun _ _ => False) s1 := by
    intro P1 s1 d kvs x cs l h dr mm ee
    refine seq ?_
    have r := r.mono l
    walk_at "h"
    with_reducible refine wpAny_Return_some ?_
    walk_at "h"
    with_reducible refine Tuple_ ?_
    walk_at "h"
    with_reducible refine args_cons ?_ (by with_unfolding_all rfl)
    walk_at "h"
    with_reducible refine Subscript_ ?_
    with_reducible refine ldv h fe (by walk_at "lk") ?_
    with_reducible refine kint h fun _ s1 h => ?_
    refine atT h r (by decide) (by decide) rfl ?_ (by intros; with_unfolding_all rfl)
    walk_at "h"
    with_reducible refine args_cons ?_ (by with_unfolding_all rfl)
    with_reducible refine kint h fun _ s1 h => ?_
    walk_at "h"
    with_reducible refine args_cons ?_ (by with_unfolding_all rfl)
    walk_at "h"
    with_reducible refine Subscript_ ?_
    with_reducible refine ldv h fe (by walk_at "lk") ?_
    with_reducible refine kint h fun _ s1 h => ?_
    refine atT h r (by decide) (by decide) rfl ?_ (by intros; with_unfolding_all rfl)
    walk_at "h"
    with_reducible refine args_cons ?_ (by with_unfolding_all rfl)
    walk_at "h"
    with_reducible refine wpAny_BinOp ?_
    walk_at "h"
    with_reducible refine Subscript_ ?_
    with_reducible refine ldv h fe (by walk_at "lk") ?_
    with_reducible refine kint h fun _ s1 h => ?_
    refine atT h r (by decide) (by decide) rfl ?_ (by intros; with_unfolding_all rfl)
    walk_at "h"
    with_reducible refine Subscript_ ?_
    with_reducible refine ldv h fe (by walk_at "lk") ?_
    with_reducible refine kint h fun _ s1 h => ?_
    refine atT h r (by decide) (by decide) rfl ?_ (by intros; with_unfolding_all rfl)
    with_reducible refine addN h fun _ s1 h => ?_
    walk_at "h"
    with_reducible refine args_cons ?_ (by with_unfolding_all rfl)
    with_reducible refine ldv h fe (by walk_at "lk") ?_
    walk_at "h"
    with_reducible refine args_nil ?_
    refine newTup h fun tt s1 h => ?_
    obtain ⟨P2, o2, l2, e2, i2, h⟩ := h.freeze
    have n1 := h.ne1 ok (.head _)
    obtain ⟨P3, o3, l3, e3, i3, h⟩ := h.freeze
    with_reducible refine Nx.ret ?_
    refine h.out ⟨_, _, _, _, _, ⟨_, _, rfl, l3 _ _ e2, i2⟩, ?_⟩
    rw [ee]
    exact ⟨_, ⟨_, _, rfl, n1, e3, i3⟩, dr.mono fun _ _ y => RPart.mono (l2.trans l3) y, mm⟩
  walk_at "h"
  with_reducible refine wpAny_Assign_Name ?_ (by with_unfolding_all rfl)
  walk_at "h"
  refine newD h fun d s1 h => ?_
  with_reducible refine stv h fe (by walk_at "up") fun s1 h => ?_
  walk_at "n"
  walk_at "h"
  with_reducible refine seq ?_
  walk_at "h"
  with_reducible refine wpAny_If ?_
  with_reducible refine wpAny_isTrue_Compare1 ?_ (by with_unfolding_all rfl)
  walk_at "h"
  with_reducible refine Subscript_ ?_
  with_reducible refine ldv h fe (by walk_at "lk") ?_
  with_reducible refine kint h fun _ s1 h => ?_
  refine atT h r (by decide) (by decide) rfl ?_ (by intros; with_unfolding_all rfl)
  with_reducible refine kint h fun _ s1 h => ?_
  refine lt_int ?_
  with_reducible refine wpAny_truthy_bool ?_
  by_cases hg : c.g < 6
  · rw [if_pos (by simpa using hg)]
    obtain ⟨f, ef, mf, nf⟩ := fnTab_at h0 hg
    with_reducible refine seq ?_
    walk_at "h"
    with_reducible refine wpAny_Assign_Name ?_ (by with_unfolding_all rfl)
    walk_at "h"
    refine callG ok h fe (mg49 ok) (by kernel_rfl) (by decide) (by with_unfolding_all rfl) (by with_unfolding_all rfl) (by with_unfolding_all rfl) ?_
    walk_at "h"
    with_reducible refine args_cons ?_ (by with_unfolding_all rfl)
    walk_at "h"
    with_reducible refine Subscript_ ?_
    walk_at "h"
    with_reducible refine Subscript_ ?_
    walk_at "h"
    refine Call_ ?_ (by with_unfolding_all rfl)
    refine ldg ok h fe (mg93 ok) (by kernel_rfl) ?_
    refine callD0 (h.fn ok (by kernel_rfl)) ?_
    refine callS h ((spec93 ok h.wd).room (by decide) (by decide)) fun PF vF s1 lF rF h => ?_
    obtain ⟨vsF, rF, lrF⟩ := rF.rls
    walk_at "h"
    with_reducible refine Subscript_ ?_
    with_reducible refine ldv h fe (by walk_at "lk") ?_
    with_reducible refine kint h fun _ s1 h => ?_
    refine atT h (r.mono lF) (by decide) (by decide) rfl ?_ (by intros; with_unfolding_all rfl)
    obtain ⟨x, ex, q1, q2, q3, q4, rx⟩ := lrF.at' ef
    refine atL h rF h0 (by lia) ex ?_ (by intros; with_unfolding_all rfl)
    walk_at "h"
    with_reducible refine wpAny_Slice ?_
    with_reducible refine evalPart_none_step ?_
    with_reducible refine evalPart_some_step ?_
    with_reducible refine kint h fun _ s1 h => ?_
    with_reducible refine evalPart_none_step ?_
    refine cutTail (b := 3) h rx (by simp) (by simp [sizeLine_eq]) (fun a s1 h => ?_) (by intros; with_unfolding_all rfl)
    obtain ⟨P2, o2, l2, e2, i2, h⟩ := h.freeze
    walk_at "h"
    with_reducible refine args_nil ?_
    refine ⟨h.fn ok (by kernel_rfl), ?_⟩
    refine callS h ((spec49 ok h.wd mf ⟨_, _, rfl, e2, i2⟩).room (by decide) (by decide)) fun P3 v3 s1 l3 hv h => ?_
    obtain ⟨t9, rfl⟩ := hv
    have l03 := lF.trans (l2.trans l3)
    with_reducible refine stv h fe (by walk_at "up") fun s1 h => ?_
    walk_at "n"
    with_reducible refine seq ?_
    walk_at "h"
    with_reducible refine wpAny_Assign_Subscript ?_ (by with_unfolding_all rfl)
    walk_at "h"
    with_reducible refine IfExp_ ?_
    refine wpAny_isTrue_value ?_
    with_reducible refine ldv h fe (by walk_at "lk") ?_
    with_reducible refine wpAny_truthy_bool ?_
    have ee : (entryOf c).2 = [(f.2.2.2, (1, c.p, c.o, c.o + c.x))] := by unfold entryOf; rw [if_pos hg, nf]
    cases sh with
    | true =>
      first | walk_at "n" | rw [if_pos rfl]
      with_reducible refine kint h fun _ s1 h => ?_
      with_reducible refine ldv h fe (by walk_at "lk") ?_
      with_reducible refine ldv h fe (by walk_at "lk") ?_
      refine setD (B := B) h (by simp) fun s1 h => ?_
      refine Nx.next (seq0 (Nx.next ?_))
      refine tail l03 h (DR.put (k := f.2.2.2) (q := (1, c.p, c.o, c.o + c.x)) .nil ⟨_, rfl⟩) ?_ ee
      intro z hz
      rw [put_one] at hz
      simp at hz; subst hz; exact names6_of mf
    | false =>
      first | walk_at "n" | rw [if_neg Bool.false_ne_true]
      have r := r.mono l03
      with_reducible refine Tuple_ ?_
      walk_at "h"
      with_reducible refine args_cons ?_ (by with_unfolding_all rfl)
      with_reducible refine kint h fun _ s1 h => ?_
      walk_at "h"
      with_reducible refine args_cons ?_ (by with_unfolding_all rfl)
      walk_at "h"
      with_reducible refine Subscript_ ?_
      with_reducible refine ldv h fe (by walk_at "lk") ?_
      with_reducible refine kint h fun _ s1 h => ?_
      refine atT h r (by decide) (by decide) rfl ?_ (by intros; with_unfolding_all rfl)
      walk_at "h"
      with_reducible refine args_cons ?_ (by with_unfolding_all rfl)
      walk_at "h"
      with_reducible refine Subscript_ ?_
      with_reducible refine ldv h fe (by walk_at "lk") ?_
      with_reducible refine kint h fun _ s1 h => ?_
      refine atT h r (by decide) (by decide) rfl ?_ (by intros; with_unfolding_all rfl)
      walk_at "h"
      with_reducible refine args_cons ?_ (by with_unfolding_all rfl)
      walk_at "h"
      with_reducible refine wpAny_BinOp ?_
      walk_at "h"
      with_reducible refine Subscript_ ?_
      with_reducible refine ldv h fe (by walk_at "lk") ?_
      with_reducible refine kint h fun _ s1 h => ?_
      refine atT h r (by decide) (by decide) rfl ?_ (by intros; with_unfolding_all rfl)
      walk_at "h"
      with_reducible refine Subscript_ ?_
      with_reducible refine ldv h fe (by walk_at "lk") ?_
      with_reducible refine kint h fun _ s1 h => ?_
      refine atT h r (by decide) (by decide) rfl ?_ (by intros; with_unfolding_all rfl)
      with_reducible refine addN h fun _ s1 h => ?_
      walk_at "h"
      with_reducible refine args_nil ?_
      refine newTup h fun tt s1 h => ?_
      obtain ⟨P4, o4, l4, e4, i4, h⟩ := h.freeze
      with_reducible refine ldv h fe (by walk_at "lk") ?_
      with_reducible refine ldv h fe (by walk_at "lk") ?_
      refine setD (B := B) h (by simp) fun s1 h => ?_
      refine Nx.next (seq0 (Nx.next ?_))
      refine tail (l03.trans l4) h (DR.put (k := f.2.2.2) (q := (1, c.p, c.o, c.o + c.x)) .nil ⟨_, _, _, _, _, _, rfl, e4, i4⟩) ?_ ee
      intro z hz
      rw [put_one] at hz
      simp at hz; subst hz; exact names6_of mf
  · rw [if_neg (by simpa using hg)]
    refine seq0 (Nx.next ?_)
    refine tail (PM.le.refl _) h .nil (fun _ hc => nomatch hc) ?_
    unfold entryOf
    rw [if_neg hg]
open PySem PySem.W PySem.W.X PyProof.Rows PySem.Calls
set_option Elab.async false
set_option maxRecDepth 100000
set_option maxHeartbeats 4000000
noncomputable def enterAll (T : Table) (ps : List (Str × Entry)) : Table := ps.foldl (fun T p => enterT T p.1 p.2) T
theorem enterAll_succ {T : Table} {ps : List (Str × Entry)} {k : Nat} {p : Str × Entry} (e : ps[k]? = some p) : enterAll T (ps.take (k + 1)) = enterT (enterAll T (ps.take k)) p.1 p.2 := by
  unfold enterAll
  rw [List.take_add_one, e, List.foldl_append]; rfl
noncomputable def pairsOf (cs : List Cl) (run : Int) : List (Str × Entry) := (cs.filter fun c => c.r == run).map fun c => (nameAt c.f, entryOf c)
noncomputable def Cl.ok (c : Cl) : Prop := 0 ≤ c.f ∧ c.f < 6 ∧ 0 ≤ c.g
/-- reduce(_law_enter, pairs, table) -/
theorem reduceEnter {B : Bs} {P : PM} {s : Shared} {sh : Bool} (ok : Ok B) (wd : Wd B P s) {sq t : Value} {T : Table} {ps : List (Str × Entry)} {d u : Nat} (hd : d + 1 ≤ 490) (hu : u + 3 ≤ 1990) (rs : RLs (RP B sh) P sq ps) (rt : RTb B sh P t T) :
    Spec B (AA d u) (.ref 86) [.ref 121, sq, t] P s (fun P' v => RTb B sh P' v (enterAll T ps)) := by
  obtain ⟨vs, rl, lr⟩ := rs
  obtain ⟨kt, ⟨a, o, rfl, hs, pa, ia⟩, dt, mt⟩ := id rt
  have c0 : o.cls = .type "dict" := by obtain ⟨_, _, x, _⟩ := ia; exact x.1
  refine (spec86 ok wd (Nat.lt_of_lt_of_le (Nat.lt_of_succ_le hd) (by decide)) (fun p => by kernel_rfl) (by decide) rl pa c0 (fun k P' v => RTb B sh P' v (enterAll T (ps.take k))) rt (fun k P P' v l h => h.mono l) ?_).mono fun P' v h => ?_
  · intro k x P' s' v hx l h wd'
    obtain ⟨p, ep, rp⟩ := lr.at hx
    rw [enterAll_succ ep]
    exact (spec121 ok wd' h (rp.mono l)).room hd hu
  · rwa [lr.length, List.take_length] at h
theorem spec128 {B : Bs} {P : PM} {s : Shared} {sh : Bool} (ok : Ok B) (wd : Wd B P s) {v : Value} {cs : List Cl} {run : Int} {tr : Tok} (hl : cs.length ≤ 10) (hc : ∀ c ∈ cs, c.ok) (r : RLs RCl P v cs) :
    Spec B (AA 470 1970) (.ref 128) [v, .int run tr, .bool sh] P s (fun P' v => RTb B sh P' v (enterAll [] (pairsOf cs run))) := by
  refine enterK ok wd 128 16 127 ["calls", "run", "short"] ["pairs", "call"] (fun p => by kernel_rfl) (fun p => by kernel_rfl) (fun p => by kernel_rfl) (fun p => by kernel_rfl) (fun p => by kernel_rfl) (fun p => ⟨⟨by kernel_rfl, by kernel_rfl⟩, by kernel_rfl, by kernel_rfl, by kernel_rfl, by kernel_rfl, by kernel_rfl⟩) (by kernel_rfl) (by kernel_rfl) rfl (by decide) ?_
  intro L s1 h fe
  dsimp only [List.cons_append, List.nil_append, List.map] at h fe
  refine seq ?_
  obtain ⟨vx, rl, lr⟩ := r
  walk_at "h"
  with_reducible refine wpAny_Assign_Name ?_ (by with_unfolding_all rfl)
  walk_at "h"
  with_reducible refine List_ ?_
  walk_at "h"
  with_reducible refine args_nil ?_
  refine newLst h fun d s1 h => ?_
  with_reducible refine stv h fe (by walk_at "up") fun s1 h => ?_
  walk_at "n"
  walk_at "h"
  with_reducible refine seq ?_
  walk_at "h"
  refine wpAny_For ?_
  with_reducible refine ldv h fe (by walk_at "lk") ?_
  refine iterL (B := B) h rfl rl fun it p s1 hit h => ?_
  have h := h
  refine forItr (B := B) hit (fun k P' vs own => ∃ vc a, own = [(d, isLst vc)] ∧ LR (RP B sh P') vc (pairsOf (cs.take k) run) ∧ vs = [some v, some (.int run tr), some (.bool sh), some (.ref d), a]) ⟨_, _, rfl, .nil, rfl⟩ h ?_ ?_
  · rintro k P' vs' own' x s1 hk hv l1 ⟨vc, a, rfl, lc, rfl⟩ h
    obtain ⟨c, ec, rc⟩ := lr.at hv
    have rc := rc.mono l1
    have hcc := hc c (List.mem_of_getElem? ec)
    obtain ⟨t1, t2, t3, t4, t5, t6, rt⟩ := id rc
    have len := lc.length
    have len2 : (pairsOf (cs.take k) run).length ≤ 10 := by
      unfold pairsOf
      rw [List.length_map]
      have := List.length_filter_le (fun c : Cl => c.r == run) (cs.take k)
      rw [List.length_take] at this
      lia
    have nx : pairsOf (cs.take (k + 1)) run = pairsOf (cs.take k) run ++ (if c.r == run then [(nameAt c.f, entryOf c)] else []) := by
      unfold pairsOf
      rw [List.take_add_one, ec, List.filter_append, List.map_append]
      simp only [Option.toList_some, List.filter_cons, List.filter_nil]
      split <;> rfl
    with_reducible refine stb h fe (by walk_at "up") fun s1 h => ?_
    walk_at "h"
    with_reducible refine seq ?_
    walk_at "h"
    with_reducible refine wpAny_If ?_
    with_reducible refine wpAny_isTrue_Compare1 ?_ (by with_unfolding_all rfl)
    walk_at "h"
    with_reducible refine Subscript_ ?_
    with_reducible refine ldv h fe (by walk_at "lk") ?_
    with_reducible refine kint h fun _ s1 h => ?_
    refine atT h rt (by decide) (by decide) rfl ?_ (by intros; with_unfolding_all rfl)
    with_reducible refine ldv h fe (by walk_at "lk") ?_
    refine eq_int ?_
    with_reducible refine wpAny_truthy_bool ?_
    cases hr : c.r == run with
    | false =>
      rw [hr] at nx
      rw [if_neg Bool.false_ne_true] at nx ⊢
      refine seq0 (Nx.next (seq0 (Lp.next ⟨P', _, _, l1, ⟨_, _, rfl, ?_, rfl⟩, h⟩)))
      rw [nx, List.append_nil]; exact lc
    | true =>
      rw [hr] at nx
      rw [if_pos rfl] at nx ⊢
      obtain ⟨f, ef, mf, nf⟩ := fnTab_at hcc.1 hcc.2.1
      have h := h.swap
      refine seq ?_
      refine exprS ?_ (by with_unfolding_all rfl) (by with_unfolding_all rfl)
      obtain ⟨oA, pA, iA⟩ := h.head
      refine appL h fe (by walk_at "lk") pA iA (by with_unfolding_all rfl) (by with_unfolding_all rfl) (by with_unfolding_all rfl) ?_
      walk_at "h"
      with_reducible refine Tuple_ ?_
      walk_at "h"
      with_reducible refine args_cons ?_ (by with_unfolding_all rfl)
      walk_at "h"
      refine callG ok h fe (mg49 ok) (by kernel_rfl) (by decide) (by with_unfolding_all rfl) (by with_unfolding_all rfl) (by with_unfolding_all rfl) ?_
      walk_at "h"
      with_reducible refine args_cons ?_ (by with_unfolding_all rfl)
      walk_at "h"
      with_reducible refine Subscript_ ?_
      walk_at "h"
      with_reducible refine Subscript_ ?_
      walk_at "h"
      refine Call_ ?_ (by with_unfolding_all rfl)
      refine ldg ok h fe (mg93 ok) (by kernel_rfl) ?_
      refine callD0 (h.fn ok (by kernel_rfl)) ?_
      refine callS h ((spec93 ok h.wd).room (by decide) (by decide)) fun PF vF s1 lF rF h => ?_
      obtain ⟨vsF, rF, lrF⟩ := rF.rls
      walk_at "h"
      with_reducible refine Subscript_ ?_
      with_reducible refine ldv h fe (by walk_at "lk") ?_
      with_reducible refine kint h fun _ s1 h => ?_
      refine atT h (rt.mono lF) (by decide) (by decide) rfl ?_ (by intros; with_unfolding_all rfl)
      obtain ⟨x, ex, q1, q2, q3, q4, rx⟩ := lrF.at' ef
      refine atL h rF hcc.1 (by have := hcc.2.1; lia) ex ?_ (by intros; with_unfolding_all rfl)
      walk_at "h"
      with_reducible refine wpAny_Slice ?_
      with_reducible refine evalPart_none_step ?_
      with_reducible refine evalPart_some_step ?_
      with_reducible refine kint h fun _ s1 h => ?_
      with_reducible refine evalPart_none_step ?_
      refine cutTail (b := 3) h rx (by simp) (by simp [sizeLine_eq]) (fun a s1 h => ?_) (by intros; with_unfolding_all rfl)
      obtain ⟨P2, o2, l2, e2, i2, h⟩ := h.freeze
      walk_at "h"
      with_reducible refine args_nil ?_
      refine ⟨h.fn ok (by kernel_rfl), ?_⟩
      refine callS h ((spec49 ok h.wd mf ⟨_, _, rfl, e2, i2⟩).room (by decide) (by decide)) fun P3 v3 s1 l3 hv h => ?_
      obtain ⟨t9, rfl⟩ := hv
      have l03 := lF.trans (l2.trans l3)
      walk_at "h"
      with_reducible refine args_cons ?_ (by with_unfolding_all rfl)
      walk_at "h"
      refine callG ok h fe (mg114 ok) (by kernel_rfl) (by decide) (by with_unfolding_all rfl) (by with_unfolding_all rfl) (by with_unfolding_all rfl) ?_
      walk_at "h"
      with_reducible refine args_cons ?_ (by with_unfolding_all rfl)
      with_reducible refine ldv h fe (by walk_at "lk") ?_
      walk_at "h"
      with_reducible refine args_cons ?_ (by with_unfolding_all rfl)
      with_reducible refine ldv h fe (by walk_at "lk") ?_
      walk_at "h"
      with_reducible refine args_nil ?_
      refine ⟨h.fn ok (by kernel_rfl), ?_⟩
      refine callS h ((spec114 ok h.wd (rc.mono l03) hcc.2.2).room (by decide) (by decide)) fun P4 v4 s1 l4 re h => ?_
      walk_at "h"
      with_reducible refine args_nil ?_
      refine newTup h fun tt s1 h => ?_
      obtain ⟨P5, o5, l5, e5, i5, h⟩ := h.freeze
      refine appD (B := B) h (by rw [len, sizeLine_eq]; lia) fun s1 h => ?_
      refine ⟨rfl, ?_⟩
      have l05 := l03.trans (l4.trans l5)
      refine Nx.next (seq0 (Nx.next (seq0 (Lp.next ⟨P5, _, _, l1.trans l05, ⟨_, _, rfl, ?_, rfl⟩, h.swap⟩))))
      rw [nx]
      refine (lc.mono fun _ _ y => RP.mono l05 y).snoc ?_
      rw [nf]
      exact ⟨_, _, ⟨_, _, rfl, e5, i5⟩, re.mono l5, names6_of mf⟩
  · rintro P' vs' own' s1 l1 ⟨vc, a, rfl, lc, rfl⟩ h
    rw [lr.length, List.take_length] at lc
    walk_at "n"
    with_reducible refine seq ?_
    walk_at "h"
    with_reducible refine wpAny_Return_some ?_
    walk_at "h"
    refine callG ok h fe (mg86 ok) (by kernel_rfl) (by decide) (by with_unfolding_all rfl) (by with_unfolding_all rfl) (by with_unfolding_all rfl) ?_
    refine args_cons (ldg ok h fe (mg121 ok) (by kernel_rfl) ?_)
    walk_at "h"
    with_reducible refine args_cons ?_ (by with_unfolding_all rfl)
    with_reducible refine ldv h fe (by walk_at "lk") ?_
    walk_at "h"
    with_reducible refine args_cons ?_ (by with_unfolding_all rfl)
    walk_at "h"
    obtain ⟨P2, o2, l2, e2, i2, h⟩ := h.freeze
    refine newD h fun dd s1 h => ?_
    have n1 := h.ne1 ok (.head _)
    obtain ⟨P3, o3, l3, e3, i3, h⟩ := h.freeze
    walk_at "h"
    with_reducible refine args_nil ?_
    refine ⟨h.fn ok (by kernel_rfl), ?_⟩
    refine callS h (reduceEnter (sh := sh) ok h.wd (by decide) (by decide) ⟨_, ⟨_, _, rfl, l3 _ _ e2, i2⟩, lc.mono fun _ _ y => RP.mono (l2.trans l3) y⟩ ⟨[], ⟨_, _, rfl, n1, e3, i3⟩, .nil, fun _ hc => nomatch hc⟩) fun P4 v4 s1 l4 rv h => ?_
    with_reducible refine Nx.ret ?_
    exact h.out rv
open PySem PySem.W PySem.W.X PyProof.Rows PySem.Calls
set_option Elab.async false
set_option maxRecDepth 100000
set_option maxHeartbeats 4000000
noncomputable def words : List (List (Int × Int)) := [[(1,-1)],[(3,-1)],[(4,1)],[(5,1)],[(6,1)],[(6,1),(4,1),(5,1)],[(0,-1)],[(7,1)],[(2,-1)]]
inductive RKey (P : PM) (v : Value) (k : Int × Int) : Prop
  | mk (t : _) (u : _) (x1 : RT P v [.int k.1 t, .int k.2 u])
theorem RKey.mono {P P' : PM} (l : P.le P') {v : Value} {k : Int × Int} (h : RKey P v k) : RKey P' v k := let ⟨t, u, r⟩ := h; ⟨t, u, r.mono l⟩
noncomputable def RKeys (P : PM) (v : Value) (ks : List (Int × Int)) : Prop := RLs RKey P v ks
theorem RLs.mono {α : Type} {R : PM → Value → α → Prop} (m : ∀ P P' v a, P.le P' → R P v a → R P' v a) {P P' : PM} (l : P.le P') {v : Value} {as : List α} (h : RLs R P v as) : RLs R P' v as := let ⟨vs, r, x⟩ := h; ⟨vs, r.mono l, x.mono fun v a => m P P' v a l⟩
theorem RKeys.mono {P P' : PM} (l : P.le P') {v : Value} {ks : List (Int × Int)} (h : RKeys P v ks) : RKeys P' v ks := RLs.mono (R := RKey) (fun _ _ _ _ l h => RKey.mono l h) l h
noncomputable def wordAt (n : Int) : List (Int × Int) := (words[(n.fmod 9).toNat]?).getD []
theorem spec100 {B : Bs} {P : PM} {s : Shared} (ok : Ok B) (wd : Wd B P s) {n : Int} {tn : Tok} :
    Spec B (AA 600 4000) (.ref 100) [.int n tn] P s (fun P' v => RKeys P' v (wordAt n)) := by
  refine enterK ok wd 100 12 99 ["n"] ([] : List Str) (fun p => by kernel_rfl) (fun p => by kernel_rfl) (fun p => by kernel_rfl) (fun p => by kernel_rfl) (fun p => by kernel_rfl) (fun p => ⟨⟨by kernel_rfl, by kernel_rfl⟩, by kernel_rfl, by kernel_rfl, by kernel_rfl, by kernel_rfl, by kernel_rfl⟩) (by kernel_rfl) (by kernel_rfl) rfl (by decide) ?_
  intro L s1 h fe
  dsimp only [List.cons_append, List.nil_append, List.map] at h fe
  refine seq ?_
  walk_at "h"
  with_reducible refine wpAny_Return_some ?_
  walk_at "h"
  with_reducible refine Subscript_ ?_
  walk_at "h"
  with_reducible refine List_ ?_
  walk_at "h"
  with_reducible refine args_cons ?_ (by with_unfolding_all rfl)
  walk_at "h"
  with_reducible refine List_ ?_
  walk_at "h"
  with_reducible refine args_cons ?_ (by with_unfolding_all rfl)
  walk_at "h"
  with_reducible refine Tuple_ ?_
  walk_at "h"
  with_reducible refine args_cons ?_ (by with_unfolding_all rfl)
  with_reducible refine kint h fun _ s1 h => ?_
  walk_at "h"
  with_reducible refine args_cons ?_ (by with_unfolding_all rfl)
  walk_at "h"
  with_reducible refine UnaryOp_ ?_
  with_reducible refine kint h fun _ s1 h => ?_
  with_reducible refine negN h fun _ s1 h => ?_
  walk_at "h"
  with_reducible refine args_nil ?_
  with_reducible refine newTup h (fun a1 s1 h => ?_) (by rw [sizeLine_eq]; exact Nat.le_of_ble_eq_true rfl)
  obtain ⟨P1, o1, l1, e1, i1, h⟩ := h.freeze
  have r1 : RKey P1 (.ref a1) (1, -1) := ⟨_, _, _, _, rfl, e1, i1⟩
  walk_at "h"
  with_reducible refine args_nil ?_
  with_reducible refine newLst h (fun a2 s1 h => ?_) (by rw [sizeLine_eq]; exact Nat.le_of_ble_eq_true rfl)
  obtain ⟨P2, o2, l2, e2, i2, h⟩ := h.freeze
  have r2 : RKeys P2 (.ref a2) [(1, -1)] := ⟨_, ⟨_, _, rfl, e2, i2⟩, (.cons (r1.mono l2) .nil)⟩
  walk_at "h"
  with_reducible refine args_cons ?_ (by with_unfolding_all rfl)
  walk_at "h"
  with_reducible refine List_ ?_
  walk_at "h"
  with_reducible refine args_cons ?_ (by with_unfolding_all rfl)
  walk_at "h"
  with_reducible refine Tuple_ ?_
  walk_at "h"
  with_reducible refine args_cons ?_ (by with_unfolding_all rfl)
  with_reducible refine kint h fun _ s1 h => ?_
  walk_at "h"
  with_reducible refine args_cons ?_ (by with_unfolding_all rfl)
  walk_at "h"
  with_reducible refine UnaryOp_ ?_
  with_reducible refine kint h fun _ s1 h => ?_
  with_reducible refine negN h fun _ s1 h => ?_
  walk_at "h"
  with_reducible refine args_nil ?_
  with_reducible refine newTup h (fun a3 s1 h => ?_) (by rw [sizeLine_eq]; exact Nat.le_of_ble_eq_true rfl)
  obtain ⟨P3, o3, l3, e3, i3, h⟩ := h.freeze
  have r3 : RKey P3 (.ref a3) (3, -1) := ⟨_, _, _, _, rfl, e3, i3⟩
  walk_at "h"
  with_reducible refine args_nil ?_
  with_reducible refine newLst h (fun a4 s1 h => ?_) (by rw [sizeLine_eq]; exact Nat.le_of_ble_eq_true rfl)
  obtain ⟨P4, o4, l4, e4, i4, h⟩ := h.freeze
  have r4 : RKeys P4 (.ref a4) [(3, -1)] := ⟨_, ⟨_, _, rfl, e4, i4⟩, (.cons (r3.mono l4) .nil)⟩
  walk_at "h"
  with_reducible refine args_cons ?_ (by with_unfolding_all rfl)
  walk_at "h"
  with_reducible refine List_ ?_
  walk_at "h"
  with_reducible refine args_cons ?_ (by with_unfolding_all rfl)
  walk_at "h"
  with_reducible refine Tuple_ ?_
  walk_at "h"
  with_reducible refine args_cons ?_ (by with_unfolding_all rfl)
  with_reducible refine kint h fun _ s1 h => ?_
  walk_at "h"
  with_reducible refine args_cons ?_ (by with_unfolding_all rfl)
  with_reducible refine kint h fun _ s1 h => ?_
  walk_at "h"
  with_reducible refine args_nil ?_
  with_reducible refine newTup h (fun a5 s1 h => ?_) (by rw [sizeLine_eq]; exact Nat.le_of_ble_eq_true rfl)
  obtain ⟨P5, o5, l5, e5, i5, h⟩ := h.freeze
  have r5 : RKey P5 (.ref a5) (4, 1) := ⟨_, _, _, _, rfl, e5, i5⟩
  walk_at "h"
  with_reducible refine args_nil ?_
  with_reducible refine newLst h (fun a6 s1 h => ?_) (by rw [sizeLine_eq]; exact Nat.le_of_ble_eq_true rfl)
  obtain ⟨P6, o6, l6, e6, i6, h⟩ := h.freeze
  have r6 : RKeys P6 (.ref a6) [(4, 1)] := ⟨_, ⟨_, _, rfl, e6, i6⟩, (.cons (r5.mono l6) .nil)⟩
  walk_at "h"
  with_reducible refine args_cons ?_ (by with_unfolding_all rfl)
  walk_at "h"
  with_reducible refine List_ ?_
  walk_at "h"
  with_reducible refine args_cons ?_ (by with_unfolding_all rfl)
  walk_at "h"
  with_reducible refine Tuple_ ?_
  walk_at "h"
  with_reducible refine args_cons ?_ (by with_unfolding_all rfl)
  with_reducible refine kint h fun _ s1 h => ?_
  walk_at "h"
  with_reducible refine args_cons ?_ (by with_unfolding_all rfl)
  with_reducible refine kint h fun _ s1 h => ?_
  walk_at "h"
  with_reducible refine args_nil ?_
  with_reducible refine newTup h (fun a7 s1 h => ?_) (by rw [sizeLine_eq]; exact Nat.le_of_ble_eq_true rfl)
  obtain ⟨P7, o7, l7, e7, i7, h⟩ := h.freeze
  have r7 : RKey P7 (.ref a7) (5, 1) := ⟨_, _, _, _, rfl, e7, i7⟩
  walk_at "h"
  with_reducible refine args_nil ?_
  with_reducible refine newLst h (fun a8 s1 h => ?_) (by rw [sizeLine_eq]; exact Nat.le_of_ble_eq_true rfl)
  obtain ⟨P8, o8, l8, e8, i8, h⟩ := h.freeze
  have r8 : RKeys P8 (.ref a8) [(5, 1)] := ⟨_, ⟨_, _, rfl, e8, i8⟩, (.cons (r7.mono l8) .nil)⟩
  walk_at "h"
  with_reducible refine args_cons ?_ (by with_unfolding_all rfl)
  walk_at "h"
  with_reducible refine List_ ?_
  walk_at "h"
  with_reducible refine args_cons ?_ (by with_unfolding_all rfl)
  walk_at "h"
  with_reducible refine Tuple_ ?_
  walk_at "h"
  with_reducible refine args_cons ?_ (by with_unfolding_all rfl)
  with_reducible refine kint h fun _ s1 h => ?_
  walk_at "h"
  with_reducible refine args_cons ?_ (by with_unfolding_all rfl)
  with_reducible refine kint h fun _ s1 h => ?_
  walk_at "h"
  with_reducible refine args_nil ?_
  with_reducible refine newTup h (fun a9 s1 h => ?_) (by rw [sizeLine_eq]; exact Nat.le_of_ble_eq_true rfl)
  obtain ⟨P9, o9, l9, e9, i9, h⟩ := h.freeze
  have r9 : RKey P9 (.ref a9) (6, 1) := ⟨_, _, _, _, rfl, e9, i9⟩
  walk_at "h"
  with_reducible refine args_nil ?_
  with_reducible refine newLst h (fun a10 s1 h => ?_) (by rw [sizeLine_eq]; exact Nat.le_of_ble_eq_true rfl)
  obtain ⟨P10, o10, l10, e10, i10, h⟩ := h.freeze
  have r10 : RKeys P10 (.ref a10) [(6, 1)] := ⟨_, ⟨_, _, rfl, e10, i10⟩, (.cons (r9.mono l10) .nil)⟩
  walk_at "h"
  with_reducible refine args_cons ?_ (by with_unfolding_all rfl)
  walk_at "h"
  with_reducible refine List_ ?_
  walk_at "h"
  with_reducible refine args_cons ?_ (by with_unfolding_all rfl)
  walk_at "h"
  with_reducible refine Tuple_ ?_
  walk_at "h"
  with_reducible refine args_cons ?_ (by with_unfolding_all rfl)
  with_reducible refine kint h fun _ s1 h => ?_
  walk_at "h"
  with_reducible refine args_cons ?_ (by with_unfolding_all rfl)
  with_reducible refine kint h fun _ s1 h => ?_
  walk_at "h"
  with_reducible refine args_nil ?_
  with_reducible refine newTup h (fun a11 s1 h => ?_) (by rw [sizeLine_eq]; exact Nat.le_of_ble_eq_true rfl)
  obtain ⟨P11, o11, l11, e11, i11, h⟩ := h.freeze
  have r11 : RKey P11 (.ref a11) (6, 1) := ⟨_, _, _, _, rfl, e11, i11⟩
  walk_at "h"
  with_reducible refine args_cons ?_ (by with_unfolding_all rfl)
  walk_at "h"
  with_reducible refine Tuple_ ?_
  walk_at "h"
  with_reducible refine args_cons ?_ (by with_unfolding_all rfl)
  with_reducible refine kint h fun _ s1 h => ?_
  walk_at "h"
  with_reducible refine args_cons ?_ (by with_unfolding_all rfl)
  with_reducible refine kint h fun _ s1 h => ?_
  walk_at "h"
  with_reducible refine args_nil ?_
  with_reducible refine newTup h (fun a12 s1 h => ?_) (by rw [sizeLine_eq]; exact Nat.le_of_ble_eq_true rfl)
  obtain ⟨P12, o12, l12, e12, i12, h⟩ := h.freeze
  have r12 : RKey P12 (.ref a12) (4, 1) := ⟨_, _, _, _, rfl, e12, i12⟩
  walk_at "h"
  with_reducible refine args_cons ?_ (by with_unfolding_all rfl)
  walk_at "h"
  with_reducible refine Tuple_ ?_
  walk_at "h"
  with_reducible refine args_cons ?_ (by with_unfolding_all rfl)
  with_reducible refine kint h fun _ s1 h => ?_
  walk_at "h"
  with_reducible refine args_cons ?_ (by with_unfolding_all rfl)
  with_reducible refine kint h fun _ s1 h => ?_
  walk_at "h"
  with_reducible refine args_nil ?_
  with_reducible refine newTup h (fun a13 s1 h => ?_) (by rw [sizeLine_eq]; exact Nat.le_of_ble_eq_true rfl)
  obtain ⟨P13, o13, l13, e13, i13, h⟩ := h.freeze
  have r13 : RKey P13 (.ref a13) (5, 1) := ⟨_, _, _, _, rfl, e13, i13⟩
  walk_at "h"
  with_reducible refine args_nil ?_
  with_reducible refine newLst h (fun a14 s1 h => ?_) (by rw [sizeLine_eq]; exact Nat.le_of_ble_eq_true rfl)
  obtain ⟨P14, o14, l14, e14, i14, h⟩ := h.freeze
  have r14 : RKeys P14 (.ref a14) [(6, 1), (4, 1), (5, 1)] := ⟨_, ⟨_, _, rfl, e14, i14⟩, (.cons (r11.mono (l12.trans (l13.trans l14))) (.cons (r12.mono (l13.trans l14)) (.cons (r13.mono l14) .nil)))⟩
  walk_at "h"
  with_reducible refine args_cons ?_ (by with_unfolding_all rfl)
  walk_at "h"
  with_reducible refine List_ ?_
  walk_at "h"
  with_reducible refine args_cons ?_ (by with_unfolding_all rfl)
  walk_at "h"
  with_reducible refine Tuple_ ?_
  walk_at "h"
  with_reducible refine args_cons ?_ (by with_unfolding_all rfl)
  with_reducible refine kint h fun _ s1 h => ?_
  walk_at "h"
  with_reducible refine args_cons ?_ (by with_unfolding_all rfl)
  walk_at "h"
  with_reducible refine UnaryOp_ ?_
  with_reducible refine kint h fun _ s1 h => ?_
  with_reducible refine negN h fun _ s1 h => ?_
  walk_at "h"
  with_reducible refine args_nil ?_
  with_reducible refine newTup h (fun a15 s1 h => ?_) (by rw [sizeLine_eq]; exact Nat.le_of_ble_eq_true rfl)
  obtain ⟨P15, o15, l15, e15, i15, h⟩ := h.freeze
  have r15 : RKey P15 (.ref a15) (0, -1) := ⟨_, _, _, _, rfl, e15, i15⟩
  walk_at "h"
  with_reducible refine args_nil ?_
  with_reducible refine newLst h (fun a16 s1 h => ?_) (by rw [sizeLine_eq]; exact Nat.le_of_ble_eq_true rfl)
  obtain ⟨P16, o16, l16, e16, i16, h⟩ := h.freeze
  have r16 : RKeys P16 (.ref a16) [(0, -1)] := ⟨_, ⟨_, _, rfl, e16, i16⟩, (.cons (r15.mono l16) .nil)⟩
  walk_at "h"
  with_reducible refine args_cons ?_ (by with_unfolding_all rfl)
  walk_at "h"
  with_reducible refine List_ ?_
  walk_at "h"
  with_reducible refine args_cons ?_ (by with_unfolding_all rfl)
  walk_at "h"
  with_reducible refine Tuple_ ?_
  walk_at "h"
  with_reducible refine args_cons ?_ (by with_unfolding_all rfl)
  with_reducible refine kint h fun _ s1 h => ?_
  walk_at "h"
  with_reducible refine args_cons ?_ (by with_unfolding_all rfl)
  with_reducible refine kint h fun _ s1 h => ?_
  walk_at "h"
  with_reducible refine args_nil ?_
  with_reducible refine newTup h (fun a17 s1 h => ?_) (by rw [sizeLine_eq]; exact Nat.le_of_ble_eq_true rfl)
  obtain ⟨P17, o17, l17, e17, i17, h⟩ := h.freeze
  have r17 : RKey P17 (.ref a17) (7, 1) := ⟨_, _, _, _, rfl, e17, i17⟩
  walk_at "h"
  with_reducible refine args_nil ?_
  with_reducible refine newLst h (fun a18 s1 h => ?_) (by rw [sizeLine_eq]; exact Nat.le_of_ble_eq_true rfl)
  obtain ⟨P18, o18, l18, e18, i18, h⟩ := h.freeze
  have r18 : RKeys P18 (.ref a18) [(7, 1)] := ⟨_, ⟨_, _, rfl, e18, i18⟩, (.cons (r17.mono l18) .nil)⟩
  walk_at "h"
  with_reducible refine args_cons ?_ (by with_unfolding_all rfl)
  walk_at "h"
  with_reducible refine List_ ?_
  walk_at "h"
  with_reducible refine args_cons ?_ (by with_unfolding_all rfl)
  walk_at "h"
  with_reducible refine Tuple_ ?_
  walk_at "h"
  with_reducible refine args_cons ?_ (by with_unfolding_all rfl)
  with_reducible refine kint h fun _ s1 h => ?_
  walk_at "h"
  with_reducible refine args_cons ?_ (by with_unfolding_all rfl)
  walk_at "h"
  with_reducible refine UnaryOp_ ?_
  with_reducible refine kint h fun _ s1 h => ?_
  with_reducible refine negN h fun _ s1 h => ?_
  walk_at "h"
  with_reducible refine args_nil ?_
  with_reducible refine newTup h (fun a19 s1 h => ?_) (by rw [sizeLine_eq]; exact Nat.le_of_ble_eq_true rfl)
  obtain ⟨P19, o19, l19, e19, i19, h⟩ := h.freeze
  have r19 : RKey P19 (.ref a19) (2, -1) := ⟨_, _, _, _, rfl, e19, i19⟩
  walk_at "h"
  with_reducible refine args_nil ?_
  with_reducible refine newLst h (fun a20 s1 h => ?_) (by rw [sizeLine_eq]; exact Nat.le_of_ble_eq_true rfl)
  obtain ⟨P20, o20, l20, e20, i20, h⟩ := h.freeze
  have r20 : RKeys P20 (.ref a20) [(2, -1)] := ⟨_, ⟨_, _, rfl, e20, i20⟩, (.cons (r19.mono l20) .nil)⟩
  walk_at "h"
  with_reducible refine args_nil ?_
  with_reducible refine newLst h (fun a21 s1 h => ?_) (by rw [sizeLine_eq]; exact Nat.le_of_ble_eq_true rfl)
  obtain ⟨P21, o21, l21, e21, i21, h⟩ := h.freeze
  have L21 : P21.le P21 := PM.le.refl _
  have L20 : P20.le P21 := l21.trans L21
  have L19 : P19.le P21 := l20.trans L20
  have L18 : P18.le P21 := l19.trans L19
  have L17 : P17.le P21 := l18.trans L18
  have L16 : P16.le P21 := l17.trans L17
  have L15 : P15.le P21 := l16.trans L16
  have L14 : P14.le P21 := l15.trans L15
  have L13 : P13.le P21 := l14.trans L14
  have L12 : P12.le P21 := l13.trans L13
  have L11 : P11.le P21 := l12.trans L12
  have L10 : P10.le P21 := l11.trans L11
  have L9 : P9.le P21 := l10.trans L10
  have L8 : P8.le P21 := l9.trans L9
  have L7 : P7.le P21 := l8.trans L8
  have L6 : P6.le P21 := l7.trans L7
  have L5 : P5.le P21 := l6.trans L6
  have L4 : P4.le P21 := l5.trans L5
  have L3 : P3.le P21 := l4.trans L4
  have L2 : P2.le P21 := l3.trans L3
  have L1 : P1.le P21 := l2.trans L2
  have rr : RLs RKeys P21 (.ref a21) words := ⟨_, ⟨_, _, rfl, e21, i21⟩, (.cons (r2.mono L2) (.cons (r4.mono L4) (.cons (r6.mono L6) (.cons (r8.mono L8) (.cons (r10.mono L10) (.cons (r14.mono L14) (.cons (r16.mono L16) (.cons (r18.mono L18) (.cons (r20.mono L20) .nil)))))))))⟩
  obtain ⟨vs, rl, lr⟩ := rr
  have b0 : 0 ≤ n.fmod 9 := Int.fmod_nonneg_of_pos n (by decide)
  have b9 : n.fmod 9 < 9 := Int.fmod_lt_of_pos n (by decide)
  have hlt : (n.fmod 9).toNat < words.length := by simp only [words, List.length_cons, List.length_nil]; lia
  obtain ⟨x, ex, rx⟩ := lr.at' (n := (n.fmod 9).toNat) (a := words[(n.fmod 9).toNat]) (by simp [hlt])
  walk_at "h"
  with_reducible refine wpAny_BinOp ?_
  with_reducible refine ldv h fe (by walk_at "lk") ?_
  with_reducible refine kint h fun _ s1 h => ?_
  with_reducible refine modN h (by decide) fun _ s1 h => ?_
  refine atL h rl b0 (by lia) ex ?_ (by intros; with_unfolding_all rfl)
  with_reducible refine Nx.ret ?_
  refine h.out ?_
  unfold wordAt
  rw [List.getElem?_eq_getElem hlt]
  exact rx
open PySem PySem.W PySem.W.X PyProof.Rows PySem.Calls
set_option Elab.async false
set_option maxRecDepth 100000
set_option maxHeartbeats 4000000
section
variable {B : Bs} {P0 P P1 : PM} {s0 s : Shared} {L : Addr} {m : Str → Option Value} {own : List Own} {A : Around} {E : Value → Shared → Prop} {e : Env} {ns : List Str} {vs vs' : List (Option Value)} {kvs : List (Str × Value)}
noncomputable def isKI (d : Addr) (n ep k : Nat) (o : Obj) : Prop := o.cls = .type "dict_keyiterator" ∧ o.data = .fields #[.ref d, .int k 0, .int n 0, .int ep 0]
noncomputable def isVI (d : Addr) (n ep k : Nat) (o : Obj) : Prop := o.cls = .type "dict_valueiterator" ∧ o.data = .fields #[.ref d, .int k 0, .int n 0, .int ep 0]
/-- for x in dict -/
theorem iterK (h : St B P0 s0 P L m own s) {v : Value} {Q : Value → Shared → Prop} (hh : A.handled = none) (r : RD B P v kvs)
    (q : ∀ it p s', Itr B A P it kvs.length (fun k v => ∃ x y t, kvs[k]? = some (x, y) ∧ v = .str x t) p → St B P0 s0 P L m ((it, p 0) :: own) s' → Q (.ref it) s') : wpAny (mdl B) A (pyIter v) Q E s := by
  obtain ⟨d, o, rfl, hd, pd, es, ep, i1, i2, i3, i4, i5⟩ := r
  have da : ∀ {P0 : PM} {s0 : Shared} {L : Addr} {P' : PM} {own' m' s'}, P.le P' → St B P0 s0 P' L m' own' s' → s'.heap.DictAt (skd B) d kvs ep := fun l' h' => ⟨o, es, h'.at (l' _ _ pd), i1, i2, i3, i4, i5⟩
  refine wpAny_pyIter_dict (knd := skd B) hd (da (PM.le.refl _) h) (q _ (isKI d kvs.length ep) _ ⟨?_, ?_⟩ (h.new _ rfl ⟨rfl, rfl⟩))
  · intro k P0 s0 P' L m own s E Q hk l h q
    obtain ⟨oi, ei, ci, di⟩ := h.head
    refine wpAny_pyNext_dict_item (knd := skd B) (k := (kvs[k]).1) (v := (kvs[k]).2) ⟨oi, ei, ci, di⟩ (da l h) (by simp [hk]) fun key h' hkey hit hs => ?_
    obtain ⟨t, rfl⟩ := is_str hkey
    obtain ⟨oi', ei', ci', di'⟩ := hit
    exact q _ _ ⟨(kvs[k]).1, (kvs[k]).2, t, by simp [hk], rfl⟩ (h.chg0 hs.extBut ei' ⟨ci', di'⟩ s.toks)
  · intro P0 s0 P' L m own s E Q l h q
    obtain ⟨oi, ei, ci, di⟩ := h.head
    exact wpAny_pyNext_dict_end (knd := skd B) hh ⟨oi, ei, ci, di⟩ (da l h) (by simp) fun h' he => q _ (h.chgDrop he s.toks)
/-- for x in name.values() -/
theorem iterV (h : St B P0 s0 P L (asg ns vs) own s) (fe : FE e L ns) {v : Value} {on : Str} {opos apos cpos : Pos} {Q : Value → Shared → Prop} (hh : A.handled = none) (r : RD B P v kvs) (lk : Lk ns vs on v)
    (hbase : attributeBase (.Name on opos) "values" e (eval (.Name on opos) e) = eval (.Name on opos) e) (hline : (apos.endLine == cpos.line) = true)
    (q : ∀ it p s', Itr B A P it kvs.length (fun k v => ∃ x, kvs[k]? = some (x, v)) p → St B P0 s0 P L (asg ns vs) ((it, p 0) :: own) s' → Q (.ref it) s') :
    wpAny (mdl B) A (eval (.Call (.Attribute (.Name on opos) "values" apos) [] [] cpos) e) (fun x s₁ => wpAny (mdl B) A (pyIter x) Q E s₁) E s := by
  obtain ⟨d, o, rfl, hd, pd, i⟩ := r
  have hm := i.dictOf (h.at pd)
  obtain ⟨es, ep, i1, i2, i3, i4, i5⟩ := i
  have da : ∀ {P0 : PM} {s0 : Shared} {L : Addr} {P' : PM} {own' m' s'}, P.le P' → St B P0 s0 P' L m' own' s' → s'.heap.DictAt (skd B) d kvs ep := fun l' h' => ⟨o, es, h'.at (l' _ _ pd), i1, i2, i3, i4, i5⟩
  refine wpAny_Call_method (T := "dict") (id := "dict.values") hbase rfl hline F.plainAttrs_dict F.slot_dict_values F.type_dict_values (ldv h fe lk ⟨hm.typeIs, hm.mapOf.noDict, ?_⟩)
  refine method_meetsIn F.slot_dict_values F.entry_dict_values rfl (PySem.evalArgs_none ⟨rfl, hm.typeIs, F.args_dict_values_1 _, _, meets_dict_values (skd B) d hd, ⟨kvs, hm⟩, ?_⟩)
  have h1 := h.new (p := fun o => o = { cls := .type "dict_values", data := .fields #[.ref d] }) { cls := .type "dict_values", data := .fields #[.ref d] } rfl rfl
  obtain ⟨o1, p1, rfl⟩ := h1.head
  refine wpAny_pyIter_values (knd := skd B) ⟨_, p1, rfl, rfl⟩ (da (PM.le.refl _) h1) ?_
  refine q _ (isVI d kvs.length ep) _ ⟨?_, ?_⟩ (h1.new _ rfl ⟨rfl, rfl⟩).swap.drop
  · intro k P0 s0 P' L m own s E Q hk l h q
    obtain ⟨oi, ei, ci, di⟩ := h.head
    refine wpAny_pyNext_values_item (knd := skd B) (k := (kvs[k]).1) (v := (kvs[k]).2) ⟨oi, ei, ci, di⟩ (da l h) (by simp [hk]) fun h' hit hs => ?_
    obtain ⟨oi', ei', ci', di'⟩ := hit
    exact q _ _ ⟨(kvs[k]).1, by simp [hk]⟩ (h.chg0 hs.extBut ei' ⟨ci', di'⟩ s.toks)
  · intro P0 s0 P' L m own s E Q l h q
    obtain ⟨oi, ei, ci, di⟩ := h.head
    exact wpAny_pyNext_values_end (knd := skd B) hh ⟨oi, ei, ci, di⟩ (da l h) (by simp) fun h' he => q _ (h.chgDrop he s.toks)
end
open PySem PySem.W PySem.W.X PyProof.Rows PySem.Calls
set_option Elab.async false
set_option maxRecDepth 100000
set_option maxHeartbeats 4000000
theorem spec70 {B : Bs} {P : PM} {s : Shared} (ok : Ok B) (wd : Wd B P s) {v : Value} {kvs : List (Str × Value)} {ns : List (Str × Int)} (r : RD B P v kvs) (dr : DR (RI P) kvs ns) :
    Spec B (AA 600 4000) (.ref 70) [v] P s (fun P' v => RI P' v ((ns.map (·.2)).sum)) := by
  refine enterK ok wd 70 5 69 ["callers"] ["nc", "calls"] (fun p => by kernel_rfl) (fun p => by kernel_rfl) (fun p => by kernel_rfl) (fun p => by kernel_rfl) (fun p => by kernel_rfl) (fun p => ⟨⟨by kernel_rfl, by kernel_rfl⟩, by kernel_rfl, by kernel_rfl, by kernel_rfl, by kernel_rfl, by kernel_rfl⟩) (by kernel_rfl) (by kernel_rfl) rfl (by decide) ?_
  intro L s1 h fe
  dsimp only [List.cons_append, List.nil_append, List.map] at h fe
  refine seq ?_
  walk_at "h"
  with_reducible refine wpAny_Assign_Name ?_ (by with_unfolding_all rfl)
  with_reducible refine kint h fun _ s1 h => ?_
  with_reducible refine stv h fe (by walk_at "up") fun s1 h => ?_
  walk_at "n"
  walk_at "h"
  with_reducible refine seq ?_
  walk_at "h"
  refine wpAny_For ?_
  refine iterV (B := B) h fe rfl r (by walk_at "lk") (by with_unfolding_all rfl) (by with_unfolding_all rfl) fun it p s1 hit h => ?_
  have h := h
  refine forItr (B := B) hit (fun k P' vs own => own = [] ∧ ∃ t a, vs = [some v, some (.int (((ns.take k).map (·.2)).sum) t), a]) ⟨rfl, _, _, rfl⟩ h ?_ ?_
  · rintro k P' vs' own' x s1 hk ⟨y, hx⟩ l1 ⟨rfl, t, a, rfl⟩ h
    obtain ⟨i, ei, ti, rfl⟩ := dr.at hx
    with_reducible refine stb h fe (by walk_at "up") fun s1 h => ?_
    walk_at "h"
    with_reducible refine seq ?_
    walk_at "h"
    with_reducible refine wpAny_AugAssign_Name ?_
    with_reducible refine ldn h fe (by walk_at "lk") ?_
    with_reducible refine ldv h fe (by walk_at "lk") ?_
    with_reducible refine iaddN h fun _ s1 h => ?_
    with_reducible refine stv h fe (by walk_at "up") fun s1 h => ?_
    walk_at "n"
    with_reducible refine seq0 ?_
    have e1 : ((ns.take (k + 1)).map (·.2)).sum = ((ns.take k).map (·.2)).sum + i := by
      rw [List.take_add_one, ei, List.map_append, List.sum_append]; simp
    rw [← e1] at h
    exact Lp.next ⟨P', _, _, l1, ⟨rfl, _, _, rfl⟩, h⟩
  · rintro P' vs' own' s1 l1 ⟨rfl, t, a, rfl⟩ h
    walk_at "n"
    with_reducible refine seq ?_
    walk_at "h"
    with_reducible refine wpAny_Return_some ?_
    with_reducible refine ldv h fe (by walk_at "lk") ?_
    with_reducible refine Nx.ret ?_
    rw [dr.length, List.take_length]
    exact h.out ⟨_, rfl⟩
open PySem PySem.W PySem.W.X PyProof.Rows PySem.Calls
set_option Elab.async false
set_option maxRecDepth 100000
set_option maxHeartbeats 4000000
section
variable {B : Bs} {P0 P P1 : PM} {s0 s : Shared} {L : Addr} {m : Str → Option Value} {own : List Own} {A : Around} {E : Value → Shared → Prop} {e : Env} {ns : List Str} {vs vs' : List (Option Value)} {kvs : List (Str × Value)} {prog : Program} {w : World}
theorem St.perm {own' : List Own} (h : St B P0 s0 P L m own s) (p : own.Perm own') : St B P0 s0 P L m own' s :=
  { h with own := fun q hq => h.own q (p.mem_iff.mpr hq), nd := (p.pairwise_iff fun hx => Ne.symm hx).mp h.nd }
theorem St.rot3 {a b c : Own} (h : St B P0 s0 P L m (a :: b :: c :: own) s) : St B P0 s0 P L m (c :: a :: b :: own) s :=
  h.perm (((List.Perm.swap c b own).cons a).trans (.swap c a _))
theorem St.back3 {a b c : Own} (h : St B P0 s0 P L m (c :: a :: b :: own) s) : St B P0 s0 P L m (a :: b :: c :: own) s :=
  h.perm ((List.Perm.swap a c _).trans ((List.Perm.swap b c own).cons a))
/-- x[name] of a dict -/
theorem atD {value slice : Expr} {v y : Value} {x : Str} {u : Tok} {Q : Value → Shared → Prop} (h : St B P0 s0 P L m own s) (r : RD B P v kvs) (hx : valueAt kvs x = some y) (q : ∀ s', St B P0 s0 P L m own s' → Q y s')
    (hs : ∀ a, subscripted slice false (.ref a) (.str x u) = operate [.ref a, .str x u] (getItem (.ref a) (.str x u))) :
    wpAny (mdl B) A (subscriptTail value slice v (.str x u)) Q E s := by
  obtain ⟨d, o, rfl, hd, pd, i⟩ := r
  exact tail_any (i.dictOf (h.at pd)).typeIs slot_dict_getitem.lookup (getD (B := B) h (h.at pd) i hx q) (hs d)
theorem valueAt_of_nodup {k : Nat} {x : Str} {v : Value} (nd : (kvs.map (·.1)).Nodup) (e : kvs[k]? = some (x, v)) : valueAt kvs x = some v := by
  induction kvs generalizing k with
  | nil => simp at e
  | cons c kvs ih =>
    rw [List.map_cons, List.nodup_cons] at nd
    cases k with
    | zero => simp at e; subst e; simp [valueAt]
    | succ k =>
      simp only [List.getElem?_cons_succ] at e
      have hm : x ∈ kvs.map (·.1) := List.mem_map.mpr ⟨_, List.mem_of_getElem? e, rfl⟩
      have hne : c.1 ≠ x := fun q => nd.1 (q ▸ hm)
      have := ih nd.2 e
      simp only [valueAt, List.find?_cons, hne, decide_false]
      exact this
/-- tuple + tuple -/
theorem addT {a b : Value} {xs ys : List Value} {Q : Value → Shared → Prop} (h : St B P0 s0 P L m own s) (ra : RT P a xs) (rb : RT P b ys) (hx : xs ≠ []) (hy : ys ≠ []) (hsz : xs.length + ys.length ≤ sizeLine)
    (q : ∀ P' v s', P.le P' → RT P' v (xs ++ ys) → St B P0 s0 P' L m own s' → Q v s') : wpAny (model prog w) A (binaryOp .Add a b) Q E s := by
  obtain ⟨x, o1, rfl, p1, n1, rfl⟩ := ra
  obtain ⟨y, o2, rfl, p2, n2, rfl⟩ := rb
  refine PySem.P.add_tuple (items := xs.toArray) (items2 := ys.toArray) (h.at p1) (h.at p2) ?_ ?_ ?_ (by simpa using hsz)
  · cases xs with
    | nil => exact absurd rfl hx
    | cons => simp
  · cases ys with
    | nil => exact absurd rfl hy
    | cons => simp
  · have h1 := h.new (p := isTup (xs ++ ys)) { cls := .type "tuple", data := .seq (xs.toArray ++ ys.toArray) } rfl ⟨0, by simp⟩
    obtain ⟨P', o, l, e, i, h2⟩ := h1.freeze
    exact q P' _ _ l ⟨_, _, rfl, e, i⟩ h2
end
structure Row where
  q : Quad
  a : Str
  i : Int
  b : Str
  n : Str
deriving DecidableEq
inductive RRow (P : PM) (v : Value) (r : Row) : Prop
  | mk (t1 : _) (t2 : _) (t3 : _) (t4 : _) (t5 : _) (t6 : _) (t7 : _) (t8 : _) (x1 : RT P v [.int r.q.1 t1, .int r.q.2.1 t2, .int r.q.2.2.1 t3, .int r.q.2.2.2 t4, .str r.a t5, .int r.i t6, .str r.b t7, .str r.n t8])
theorem RRow.mono {P P' : PM} (l : P.le P') {v : Value} {r : Row} (h : RRow P v r) : RRow P' v r := let ⟨a, b, c, d, e, f, g, i, x⟩ := h; ⟨a, b, c, d, e, f, g, i, x.mono l⟩
noncomputable def rowOf (q : Quad) (f : Str × Int × Str × Str) : Row := ⟨q, f.1, f.2.1, f.2.2.1, f.2.2.2⟩
noncomputable def rowsAt (c : Str × Entry) (k : Nat) : List Row := ((fnTab.take k).filter fun f => f.2.2.2 == c.1).map (rowOf c.2.1)
noncomputable def rowsOf (T : Table) : List Row := T.flatMap fun c => rowsAt c 6
theorem rowsAt_len (c : Str × Entry) (k : Nat) : (rowsAt c k).length ≤ 6 := by
  unfold rowsAt
  rw [List.length_map]
  have h1 := List.length_filter_le (fun f : Str × Int × Str × Str => f.2.2.2 == c.1) (fnTab.take k)
  have h2 : (fnTab.take k).length ≤ 6 := by rw [List.length_take]; exact Nat.le_trans (Nat.min_le_right _ _) (by simp [fnTab])
  lia
theorem rowsOf_len (T : Table) : (rowsOf T).length ≤ 6 * T.length := by
  unfold rowsOf
  induction T with
  | nil => simp
  | cons c T ih =>
    rw [List.flatMap_cons, List.length_append, List.length_cons]
    have := rowsAt_len c 6
    lia
theorem spec142 {B : Bs} {P : PM} {s : Shared} {sh : Bool} (ok : Ok B) (wd : Wd B P s) {v : Value} {T : Table} (r : RTb B sh P v T) :
    Spec B (AA 500 2000) (.ref 142) [v] P s (fun P' v => RLs RRow P' v (rowsOf T)) := by
  refine enterK ok wd 142 18 141 ["table"] ["rows", "name", "function"] (fun p => by kernel_rfl) (fun p => by kernel_rfl) (fun p => by kernel_rfl) (fun p => by kernel_rfl) (fun p => by kernel_rfl) (fun p => ⟨⟨by kernel_rfl, by kernel_rfl⟩, by kernel_rfl, by kernel_rfl, by kernel_rfl, by kernel_rfl, by kernel_rfl⟩) (by kernel_rfl) (by kernel_rfl) rfl (by decide) ?_
  intro L s1 h fe
  dsimp only [List.cons_append, List.nil_append, List.map] at h fe
  refine seq ?_
  have h6 := r.le6
  obtain ⟨kt, rt, dt, mt⟩ := id r
  walk_at "h"
  with_reducible refine wpAny_Assign_Name ?_ (by with_unfolding_all rfl)
  walk_at "h"
  with_reducible refine List_ ?_
  walk_at "h"
  with_reducible refine args_nil ?_
  with_reducible refine newLst h (fun d s1 h => ?_) (by rw [sizeLine_eq]; decide)
  with_reducible refine stv h fe (by walk_at "up") fun s1 h => ?_
  walk_at "n"
  walk_at "h"
  with_reducible refine seq ?_
  walk_at "h"
  refine wpAny_For ?_
  with_reducible refine ldv h fe (by walk_at "lk") ?_
  refine iterK (B := B) h rfl rt fun it p s1 hit h => ?_
  have h := h
  refine forItr (B := B) hit (fun k P' vs own => ∃ vr a b, own = [(d, isLst vr)] ∧ LR (RRow P') vr (rowsOf (T.take k)) ∧ vs = [some v, some (.ref d), a, b]) ⟨_, _, _, rfl, .nil, rfl⟩ h ?_ ?_
  · rintro k P' vs' own' x s1 hk ⟨nm, y, tn, hx0, rfl⟩ l1 ⟨vr, a, b, rfl, lr, rfl⟩ h
    obtain ⟨en, en1, re⟩ := dt.at hx0
    have nx : rowsOf (T.take (k + 1)) = rowsOf (T.take k) ++ rowsAt (nm, en) 6 := by
      unfold rowsOf
      rw [List.take_add_one, en1, List.flatMap_append]; simp
    have rlen : (rowsOf (T.take k)).length ≤ 36 := by
      have := rowsOf_len (T.take k)
      rw [List.length_take] at this
      lia
    with_reducible refine stb h fe (by walk_at "up") fun s1 h => ?_
    walk_at "h"
    with_reducible refine seq ?_
    walk_at "h"
    refine wpAny_For ?_
    refine Call_ ?_ (by with_unfolding_all rfl)
    refine ldg ok h fe (mg93 ok) (by kernel_rfl) ?_
    refine callD0 (h.fn ok (by kernel_rfl)) ?_
    refine callS h ((spec93 ok h.wd).room (by decide) (by decide)) fun PF vF s1 lF rF h => ?_
    obtain ⟨vsF, rF, lrF⟩ := rF.rls
    refine iterL (B := B) h rfl rF fun it2 p2 s1 hit2 h => ?_
    have h := h
    refine forItr (B := B) hit2 (fun j P2 vs own => ∃ vr a, own = [(it, p (k + 1)), (d, isLst vr)] ∧ LR (RRow P2) vr (rowsOf (T.take k) ++ rowsAt (nm, en) j) ∧ vs = [some v, some (.ref d), some (.str nm tn), a]) ⟨_, _, rfl, ?_, rfl⟩ h ?_ ?_
    · rw [show rowsAt (nm, en) 0 = [] from rfl, List.append_nil]
      exact lr.mono fun _ _ y => RRow.mono lF y
    · rintro j P2 vs' own' x s1 hj hx l2 ⟨vr, a, rfl, lr, rfl⟩ h
      obtain ⟨f, ef, rf⟩ := lrF.at hx
      have rf := RFn.mono l2 rf
      obtain ⟨q1, q2, q3, q4, rt4⟩ := id rf
      have mf := List.mem_of_getElem? ef
      have nx2 : rowsAt (nm, en) (j + 1) = rowsAt (nm, en) j ++ (if f.2.2.2 == nm then [rowOf en.1 f] else []) := by
        unfold rowsAt
        rw [List.take_add_one, ef, List.filter_append, List.map_append]
        simp only [Option.toList_some, List.filter_cons, List.filter_nil]
        split <;> rfl
      have len := lr.length
      rw [List.length_append] at len
      have := rowsAt_len (nm, en) j
      with_reducible refine stb h fe (by walk_at "up") fun s1 h => ?_
      walk_at "h"
      with_reducible refine seq ?_
      walk_at "h"
      with_reducible refine wpAny_If ?_
      with_reducible refine wpAny_isTrue_Compare1 ?_ (by with_unfolding_all rfl)
      walk_at "h"
      refine callG ok h fe (mg49 ok) (by kernel_rfl) (by decide) (by with_unfolding_all rfl) (by with_unfolding_all rfl) (by with_unfolding_all rfl) ?_
      walk_at "h"
      with_reducible refine args_cons ?_ (by with_unfolding_all rfl)
      walk_at "h"
      with_reducible refine Subscript_ ?_
      with_reducible refine ldv h fe (by walk_at "lk") ?_
      walk_at "h"
      with_reducible refine wpAny_Slice ?_
      with_reducible refine evalPart_none_step ?_
      with_reducible refine evalPart_some_step ?_
      with_reducible refine kint h fun _ s1 h => ?_
      with_reducible refine evalPart_none_step ?_
      refine cutTail (b := 3) h rt4 (by simp) (by simp [sizeLine_eq]) (fun a s1 h => ?_) (by intros; with_unfolding_all rfl)
      obtain ⟨P3, o3, l3, e3, i3, h⟩ := h.freeze
      walk_at "h"
      with_reducible refine args_nil ?_
      refine ⟨h.fn ok (by kernel_rfl), ?_⟩
      refine callS h ((spec49 ok h.wd mf ⟨_, _, rfl, e3, i3⟩).room (by decide) (by decide)) fun P4 v4 s1 l4 hv h => ?_
      obtain ⟨t9, rfl⟩ := hv
      have l24 := l3.trans l4
      with_reducible refine ldv h fe (by walk_at "lk") ?_
      refine eq_str ?_
      with_reducible refine wpAny_truthy_bool ?_
      cases hr : f.2.2.2 == nm with
      | false =>
        rw [hr] at nx2
        rw [if_neg Bool.false_ne_true] at nx2 ⊢
        refine seq0 (Nx.next (seq0 (Lp.next ⟨P4, _, _, l2.trans l24, ⟨_, _, rfl, ?_, rfl⟩, h⟩)))
        rw [nx2, List.append_nil]; exact lr.mono fun _ _ y => RRow.mono l24 y
      | true =>
        rw [hr] at nx2
        rw [if_pos rfl] at nx2 ⊢
        have h := h.rot3
        refine seq ?_
        refine exprS ?_ (by with_unfolding_all rfl) (by with_unfolding_all rfl)
        obtain ⟨oA, pA, iA⟩ := h.head
        refine appL h fe (by walk_at "lk") pA iA (by with_unfolding_all rfl) (by with_unfolding_all rfl) (by with_unfolding_all rfl) ?_
        walk_at "h"
        with_reducible refine wpAny_BinOp ?_
        walk_at "h"
        with_reducible refine wpAny_BinOp ?_
        walk_at "h"
        with_reducible refine Subscript_ ?_
        walk_at "h"
        with_reducible refine Subscript_ ?_
        with_reducible refine ldv h fe (by walk_at "lk") ?_
        with_reducible refine ldv h fe (by walk_at "lk") ?_
        have l14 := l1.trans (lF.trans (l2.trans l24))
        refine atD h (rt.mono l14) (valueAt_of_nodup rt.nodup hx0) (fun s1 h => ?_) (by intros; with_unfolding_all rfl)
        obtain ⟨e1, e2, e3, e4, ec, re5, _⟩ := RE.mono l14 re
        walk_at "h"
        with_reducible refine wpAny_Slice ?_
        with_reducible refine evalPart_none_step ?_
        with_reducible refine evalPart_some_step ?_
        with_reducible refine kint h fun _ s1 h => ?_
        with_reducible refine evalPart_none_step ?_
        refine cutTail (b := 4) h re5 (by simp) (by simp [sizeLine_eq]) (fun a s1 h => ?_) (by intros; with_unfolding_all rfl)
        obtain ⟨P5, o5, l5, e5, i5, h⟩ := h.freeze
        walk_at "h"
        with_reducible refine Subscript_ ?_
        with_reducible refine ldv h fe (by walk_at "lk") ?_
        walk_at "h"
        with_reducible refine wpAny_Slice ?_
        with_reducible refine evalPart_none_step ?_
        with_reducible refine evalPart_some_step ?_
        with_reducible refine kint h fun _ s1 h => ?_
        with_reducible refine evalPart_none_step ?_
        refine cutTail (b := 3) h (rt4.mono (l24.trans l5)) (by simp) (by simp [sizeLine_eq]) (fun a s1 h => ?_) (by intros; with_unfolding_all rfl)
        obtain ⟨P6, o6, l6, e6, i6, h⟩ := h.freeze
        refine addT h ⟨_, _, rfl, l6 _ _ e5, i5⟩ ⟨_, _, rfl, e6, i6⟩ (by simp) (by simp) (by simp [sizeLine_eq]) fun P7 v7 s1 l7 r7 h => ?_
        walk_at "h"
        with_reducible refine Tuple_ ?_
        walk_at "h"
        with_reducible refine args_cons ?_ (by with_unfolding_all rfl)
        with_reducible refine ldv h fe (by walk_at "lk") ?_
        walk_at "h"
        with_reducible refine args_nil ?_
        refine newTup h fun tt s1 h => ?_
        obtain ⟨P8, o8, l8, e8, i8, h⟩ := h.freeze
        refine addT h (r7.mono l8) ⟨_, _, rfl, e8, i8⟩ (by simp) (by simp) (by simp [sizeLine_eq]) fun P9 v9 s1 l9 r9 h => ?_
        refine appD (B := B) h (by rw [len, sizeLine_eq]; lia) fun s1 h => ?_
        refine ⟨rfl, ?_⟩
        have l59 := l24.trans (l5.trans (l6.trans (l7.trans (l8.trans l9))))
        refine Nx.next (seq0 (Nx.next (seq0 (Lp.next ⟨P9, _, _, l2.trans l59, ⟨_, _, rfl, ?_, rfl⟩, h.back3⟩))))
        rw [nx2, ← List.append_assoc]
        refine (lr.mono fun _ _ y => RRow.mono l59 y).snoc ?_
        have hnm : f.2.2.2 = nm := by simpa using hr
        rw [← hnm] at r9
        exact ⟨_, _, _, _, _, _, _, _, r9⟩
    · rintro P2 vs' own' s1 l2 ⟨vr, a, rfl, lr, rfl⟩ h
      refine Nx.next (seq0 (Lp.next ⟨P2, _, _, l1.trans (lF.trans l2), ⟨_, _, _, rfl, ?_, rfl⟩, h⟩))
      rw [nx]
      rw [lrF.length] at lr
      exact lr
  · rintro P' vs' own' s1 l1 ⟨vc, a, b, rfl, lc, rfl⟩ h
    walk_at "n"
    with_reducible refine seq ?_
    walk_at "h"
    with_reducible refine wpAny_Return_some ?_
    with_reducible refine ldv h fe (by walk_at "lk") ?_
    with_reducible refine Nx.ret ?_
    obtain ⟨P2, o3, l2, e2, i3, h⟩ := h.freeze
    refine h.out ⟨_, ⟨_, _, rfl, e2, i3⟩, ?_⟩
    rw [dt.length, List.take_length] at lc
    exact lc.mono fun _ _ y => RRow.mono l2 y
open PySem PySem.W PySem.W.X PyProof.Rows PySem.Calls
set_option Elab.async false
set_option maxRecDepth 100000
set_option maxHeartbeats 4000000
section
variable {B : Bs} {P0 P P1 : PM} {s0 s : Shared} {L : Addr} {m : Str → Option Value} {own : List Own} {A : Around} {E : Value → Shared → Prop} {e : Env} {ns : List Str} {vs vs' : List (Option Value)} {kvs : List (Str × Value)} {prog : Program} {w : World}
theorem LR.of_at {α : Type} {R : Value → α → Prop} : ∀ {vs : List Value} {as : List α}, vs.length = as.length → (∀ (n : Nat) (v : Value) (a : α), vs[n]? = some v → as[n]? = some a → R v a) → LR R vs as
  | [], [], _, _ => .nil
  | _ :: _, _ :: _, hl, h => .cons (h 0 _ _ rfl rfl) (LR.of_at (by simpa using hl) fun n v a e1 e2 => h (n + 1) v a (by simpa using e1) (by simpa using e2))
  | [], _ :: _, hl, _ => by simp at hl
  | _ :: _, [], hl, _ => by simp at hl
noncomputable def isDV (d : Addr) (o : Obj) : Prop := o = { cls := .type "dict_items", data := .fields #[.ref d] }
/-- name.items() -/
theorem evItems {on : Str} {opos apos cpos : Pos} {d : Addr} {Q : Value → Shared → Prop} (h : St B P0 s0 P L (asg ns vs) own s) (fe : FE e L ns) (r : RD B P (.ref d) kvs) (lk : Lk ns vs on (.ref d))
    (hbase : attributeBase (.Name on opos) "items" e (eval (.Name on opos) e) = eval (.Name on opos) e) (hline : (apos.endLine == cpos.line) = true)
    (q : ∀ r s', St B P0 s0 P L (asg ns vs) ((r, isDV d) :: own) s' → Q (.ref r) s') : wpAny (mdl B) A (eval (.Call (.Attribute (.Name on opos) "items" apos) [] [] cpos) e) Q E s := by
  obtain ⟨d', o, e, hd, pd, i⟩ := r
  cases e
  exact wpAny_Call_items (knd := skd B) hd (i.dictOf (h.at pd)) hbase hline (fun Q' q' => ldv h fe lk q') (q _ _ (h.new _ rfl rfl))
/-- list(items) -/
theorem itemsL {d r : Addr} {Q : Value → Shared → Prop} (h : St B P0 s0 P L m ((r, isDV d) :: own) s) (hh : A.handled = none) (rd : RD B P (.ref d) kvs) (hn : kvs.length ≤ sizeLine)
    (q : ∀ P' us a s', P.le P' → RL P' a us → us.length = kvs.length → (∀ (j : Nat) u, us[j]? = some u → ∃ x y t, kvs[j]? = some (x, y) ∧ RT P' u [.str x t, y]) → St B P0 s0 P' L m own s' → Q a s') :
    wpAny (mdl B) A (call (.type "list") [.ref r]) Q E s := by
  obtain ⟨d', o, e, hd, pd, i⟩ := rd
  cases e
  obtain ⟨o1, p1, rfl⟩ := h.head
  obtain ⟨es, ep, i1, i2, i3, i4, i5⟩ := id i
  refine kdx_call (knd := skd B) (ep := ep) hh ⟨_, p1, rfl, rfl⟩ ⟨o, es, h.at pd, i1, i2, i3, i4, i5⟩ hn fun h' tk acc c as hk hl hlen G hacc => ?_
  obtain ⟨h2, l, hx⟩ := h.grow (s' := { s with heap := h', toks := tk }) hk rfl h.wd.gb
  have nn : ∀ a, s.heap.objs.size ≤ a → s.heap.get? a = none := fun a ha => by
    cases q : s.heap.get? a with
    | none => rfl
    | some o' => exact absurd (Heap.lt_size q) (Nat.not_lt.mpr ha)
  refine q _ acc.toList _ _ l ⟨_, _, rfl, hx _ _ (nn _ (Nat.le_refl _)) hl, c, by simp⟩ (by rw [hacc, List.length_map, hlen]) (fun j u hj => ?_) h2.drop
  rw [hacc, List.getElem?_map] at hj
  obtain ⟨a, ha, rfl⟩ := Option.map_eq_some_iff.mp hj
  obtain ⟨key, x, y, e1, e2, e3⟩ := G.pairs j a ha
  obtain ⟨t, rfl⟩ := is_str e2
  exact ⟨x, y, t, e1, a, _, rfl, hx _ _ (nn _ (Nat.le_of_lt (G.above a (List.mem_of_getElem? ha)))) e3, 0, rfl⟩
end
theorem mgn_list {B : Bs} (ok : Ok B) : B.mg "list" = none := mg_none_of ok.X ok.g (by kernel_rfl)
theorem spec135 {B : Bs} {P : PM} {s : Shared} {sh : Bool} (ok : Ok B) (wd : Wd B P s) {t u : Value} {T U : Table} (ht : RTb B sh P t T) (hu : RTb B sh P u U) :
    Spec B (AA 470 1970) (.ref 135) [t, u] P s (fun P' v => RTb B sh P' v (enterAll T U)) := by
  refine enterK ok wd 135 17 134 ["table", "run"] [] (fun p => by kernel_rfl) (fun p => by kernel_rfl) (fun p => by kernel_rfl) (fun p => by kernel_rfl) (fun p => by kernel_rfl) (fun p => ⟨⟨by kernel_rfl, by kernel_rfl⟩, by kernel_rfl, by kernel_rfl, by kernel_rfl, by kernel_rfl, by kernel_rfl⟩) (by kernel_rfl) (by kernel_rfl) rfl (by decide) ?_
  intro L s1 h fe
  dsimp only [List.cons_append, List.nil_append, List.map] at h fe
  refine seq ?_
  have h6 := hu.le6
  obtain ⟨ku, ru, du, mu⟩ := id hu
  walk_at "h"
  with_reducible refine wpAny_Return_some ?_
  walk_at "h"
  refine callG ok h fe (mg86 ok) (by kernel_rfl) (by decide) (by with_unfolding_all rfl) (by with_unfolding_all rfl) (by with_unfolding_all rfl) ?_
  refine args_cons (ldg ok h fe (mg121 ok) (by kernel_rfl) ?_)
  refine args_cons ?_
  refine Call_ ?_
  refine ldb ok h fe (mgn_list ok) boot_list (by kernel_rfl) ?_
  with_reducible refine callT ?_ rfl rfl
  refine args_cons ?_
  obtain ⟨d, o, rfl, hd, pd, i⟩ := id ru
  refine evItems h fe ru (by walk_at "lk") (by with_unfolding_all rfl) (by with_unfolding_all rfl) fun r s1 h => ?_
  walk_at "h"
  with_reducible refine args_nil ?_
  refine itemsL h rfl ru (by rw [du.length, sizeLine_eq]; lia) fun P' us a s1 l ra ul ua h => ?_
  walk_at "h"
  with_reducible refine args_cons ?_ (by with_unfolding_all rfl)
  with_reducible refine ldv h fe (by walk_at "lk") ?_
  walk_at "h"
  with_reducible refine args_nil ?_
  refine ⟨h.fn ok (by kernel_rfl), ?_⟩
  refine callS h (reduceEnter (sh := sh) ok h.wd (by decide) (by decide) ⟨_, ra, LR.of_at (as := U) (ul.trans du.length) fun n v c e1 e2 => ?_⟩ (ht.mono l)) fun P4 v4 s1 l4 rv h => ?_
  · obtain ⟨x, y, t, e3, r3⟩ := ua n v e1
    obtain ⟨q, e4, rq⟩ := du.at e3
    rw [e2] at e4
    cases e4
    exact ⟨t, y, r3, rq.mono l, mu _ (List.mem_of_getElem? e2)⟩
  with_reducible refine Nx.ret ?_
  exact h.out rv
open PySem PySem.W PySem.W.X PyProof.Rows PySem.Calls
set_option Elab.async false
set_option maxRecDepth 100000
set_option maxHeartbeats 4000000
noncomputable def isNs (m : Str → Option Value) (o : Obj) : Prop := ∃ es ep, o.data = .dict es ep ∧ StrKeys es ∧ ∀ name, nsFind es name = m name
/-- an iterator that gives itself -/
noncomputable def Slf (B : Bs) (A : Around) (P : PM) (it : Addr) (p : Nat → Obj → Prop) : Prop :=
  ∀ {k : Nat} {P0 : PM} {s0 : Shared} {P' : PM} {L : Addr} {m : Str → Option Value} {own : List Own} {s : Shared} {E : Value → Shared → Prop} {Q : Value → Shared → Prop}, P.le P' → St B P0 s0 P' L m ((it, p k) :: own) s → Q (.ref it) s → wpAny (mdl B) A (pyIter (.ref it)) Q E s
section
variable {B : Bs} {P0 P P1 : PM} {s0 s : Shared} {L C : Addr} {m mC : Str → Option Value} {own : List Own} {A : Around} {E : Value → Shared → Prop} {e : Env} {ns : List Str} {vs vs' : List (Option Value)} {kvs : List (Str × Value)} {prog : Program} {w : World}
/-- the frame and an own namespace change places -/
theorem St.turn (h : St B P0 s0 P L m ((C, isNs mC) :: own) s) : St B P0 s0 P C mC ((L, isNs m) :: own) s := by
  obtain ⟨⟨o, e, es, ep, r⟩, hL, hP, h0, ht⟩ := h.own _ (.head _)
  have nd := List.pairwise_cons.mp h.nd
  obtain ⟨oL, esL, epL, eL, rL⟩ := h.ns
  refine { h with ns := ⟨o, es, ep, e, r⟩, lf := ⟨hP, h0, ht⟩, own := fun q hq => ?_, nd := List.pairwise_cons.mpr ⟨fun q hq => ?_, nd.2⟩ }
  · rcases List.mem_cons.mp hq with rfl | hq
    · exact ⟨⟨oL, eL, esL, epL, rL⟩, Ne.symm hL, h.lf⟩
    · obtain ⟨r1, r2, r3⟩ := h.own q (.tail _ hq)
      exact ⟨r1, Ne.symm (nd.1 q hq), r3⟩
  · exact Ne.symm (h.own q (.tail _ hq)).2.1
theorem asg_nones (ns : List Str) : asg ns (ns.map fun _ => none) = fun _ => none := by
  funext x
  induction ns with
  | nil => rfl
  | cons n ns ih => simp only [List.map_cons, asg]; split <;> first | rfl | exact ih
/-- the namespace of a comprehension -/
theorem newNs (ns' : List Str) {scope : Scope} {cl : List (Str × Addr)} {qual : Str} {Q : Env → Shared → Prop} {M : Model} (h : St B P0 s0 P L m own s) (hcell : ∀ x ∈ scope.names, x.2 ≠ .cell) (hk : scope.kind = .function)
    (q : ∀ C s', St B P0 s0 P L m ((C, isNs (asg ns' (ns'.map fun _ => none))) :: own) s' → Q (newEnv scope C e.globals cl qual none .none (some e) builtinsNs) s') :
    wpAny M A (newFunctionEnv scope e.globals cl [] qual none .none (some e)) Q E s := by
  refine wpAny_newFunctionEnv hcell (by intro y hy; simp at hy) (fun h' hn hs => ?_) hk
  have h1 := h.new (p := fun _ => True) { cls := .type (if (some e).isSome then "dict" else "frame"), data := .dict #[] } rfl trivial
  obtain ⟨o, es, ep, eo, r⟩ := hn
  refine q _ _ (h1.chg0 hs.extBut eo ⟨es, ep, ?_⟩ _)
  rw [asg_nones]
  exact r
theorem setLst {D : Addr} {xs : List Value} {y : Value} {Q : Value → Shared → Prop} (h : St B P0 s0 P L m own s) {own' : List Own} (hp : own.Perm ((D, isLst xs) :: own')) (hsz : xs.length ≤ sizeLine)
    (q : ∀ s', St B P0 s0 P L m ((D, isLst (xs ++ [y])) :: own') s' → Q .none s') : wpAny (mdl B) A (call (.builtin "list.append") [.ref D, y]) Q E s := appD (B := B) (h.perm hp) hsz q
/-- what holds between the turns of a list comprehension -/
inductive BtL (B : Bs) (P0 : PM) (s0 : Shared) (P : PM) (C : Addr) (ns' : List Str) (it D : Addr) (p : Nat → Obj → Prop) (rest : List Own) (Inv : Nat → PM → List Value → Prop) (k : Nat) (s : Shared) : Prop
  | mk (P' : _) (vs : _) (ys : _) (x1 : P.le P') (x2 : Inv k P' ys) (x3 : (ys.length ≤ k ∧ vs.length = ns'.length)) (x4 : St B P0 s0 P' C (asg ns' vs) ((it, p k) :: (D, isLst ys) :: rest) s)
/-- what a turn of it leaves -/
noncomputable def TurnL (B : Bs) (P0 : PM) (s0 : Shared) (P : PM) (A : Around) (C : Addr) (ns' : List Str) (it D : Addr) (p : Nat → Obj → Prop) (rest : List Own) (Inv : Nat → PM → List Value → Prop) (k : Nat) (elt : Expr) (cenv : Env) (ys : List Value) (ok : Bool) (s : Shared) : Prop :=
  if ok = true then wpAny (mdl B) A (eval elt cenv) (fun x s' => ∃ P' vs, P.le P' ∧ vs.length = ns'.length ∧ Inv (k + 1) P' (ys ++ [x]) ∧ St B P0 s0 P' C (asg ns' vs) ((it, p (k + 1)) :: (D, isLst ys) :: rest) s') no s
  else ∃ P' vs, P.le P' ∧ vs.length = ns'.length ∧ Inv (k + 1) P' ys ∧ St B P0 s0 P' C (asg ns' vs) ((it, p (k + 1)) :: (D, isLst ys) :: rest) s
noncomputable abbrev tests (ifs : List Expr) (cenv : Env) : Sem Bool := forIn ifs true fun c r => if r = true then do let ok ← isTrue c cenv (eval c cenv); pure (ForInStep.yield ok) else pure (ForInStep.yield r)
theorem compL_loop {elt target iter : Expr} {ifs : List Expr} {scope : Scope} {pos : Pos} {it D : Addr} {cenv : Env} {n : Nat} {V : Nat → Value → Prop} {p : Nat → Obj → Prop} {rest : List Own} {ns' : List Str} {R : Result → Shared → Prop}
    (hit : Itr B A P it n V p) (sl : Slf B A P it p) (hn : n ≤ sizeLine) (Inv : Nat → PM → List Value → Prop) (h0 : Inv 0 P []) (hv0 : vs.length = ns'.length) (h : St B P0 s0 P C (asg ns' vs) ((it, p 0) :: (D, isLst []) :: rest) s)
    (turn : ∀ k P' vs' ys v s', k < n → V k v → P.le P' → vs'.length = ns'.length → Inv k P' ys → St B P0 s0 P' C (asg ns' vs') ((it, p (k + 1)) :: (D, isLst ys) :: rest) s' →
      wpAny (mdl B) A (assign target cenv v) (fun _ s₂ => wpAny (mdl B) A (tests ifs cenv) (fun ok s₃ => TurnL B P0 s0 P A C ns' it D p rest Inv k elt cenv ys ok s₃) no s₂) no s')
    (fin : ∀ P' vs' ys s', P.le P' → Inv n P' ys → ys.length ≤ n → St B P0 s0 P' C (asg ns' vs') ((D, isLst ys) :: rest) s' → R (.ok .next) s')
    (ht : ∀ v, letOwnedTupleGo target (.ref it) v = pure () := by intro _; rfl) :
    codeAny (mdl B) A (.compStart (.ListComp elt [⟨target, iter, ifs, 0⟩] scope pos) 0 (.ref it) (.ref D) cenv) R s := by
  have loop : ∀ s, BtL B P0 s0 P C ns' it D p rest Inv 0 s → codeAny (mdl B) A (.compLoop (.ListComp elt [⟨target, iter, ifs, 0⟩] scope pos) 0 (.ref it) (.ref D) cenv) R s := by
    intro s hb
    refine codeAny_compLoop_tests (fun j s' => ∃ k, k ≤ n ∧ j = n - k ∧ BtL B P0 s0 P C ns' it D p rest Inv k s') ?_ n ⟨0, Nat.zero_le _, rfl, hb⟩ ht
    rintro j s' ⟨k, hk, rfl, P', vs', ys, l, inv, ⟨hy, hvl⟩, h'⟩
    rcases Nat.lt_or_ge k n with hlt | hge
    · refine hit.item hlt l h' fun v s₁ hv h₁ => ?_
      refine wpAny_noRaise (wpAny_mono (turn k P' vs' ys v s₁ hlt hv l hvl inv h₁) (fun _ s₂ h₂ => ?_) fun _ _ x => x)
      refine wpAny_noRaise (wpAny_mono h₂ (fun ok s₃ h₃ => ?_) fun _ _ x => x)
      unfold TurnL at h₃
      cases ok with
      | false =>
        rw [if_neg Bool.false_ne_true] at h₃ ⊢
        obtain ⟨P2, vs2, l2, v2, i2, g2⟩ := h₃
        exact ⟨n - (k + 1), by lia, k + 1, hlt, rfl, P2, vs2, ys, l2, i2, ⟨Nat.le_succ_of_le hy, v2⟩, g2⟩
      | true =>
        rw [if_pos rfl] at h₃ ⊢
        refine wpAny_noRaise (wpAny_mono h₃ (fun x s₄ h₄ => ?_) fun _ _ x => x)
        obtain ⟨P2, vs2, l2, v2, i2, g2⟩ := h₄
        refine setLst (B := B) g2 (List.Perm.swap ..) (by lia) fun s₅ g3 => ?_
        exact ⟨n - (k + 1), by lia, k + 1, hlt, rfl, P2, vs2, _, l2, i2, ⟨by simp; lia, v2⟩, g3.swap⟩
    · obtain rfl : k = n := Nat.le_antisymm hk hge
      exact hit.done l h' fun s₁ h₁ => fin P' vs' ys s₁ l inv hy h₁
  have b0 : BtL B P0 s0 P C ns' it D p rest Inv 0 s := ⟨P, vs, [], PM.le.refl _, h0, ⟨Nat.le_refl _, hv0⟩, h⟩
  exact codeAny_compStart_list (loop s b0) (sl (PM.le.refl _) h (loop s b0))
/-- the names of a comprehension -/
theorem feC (fe : FE e L ns) {scope : Scope} {cl : List (Str × Addr)} {ns' : List Str} (hk : scope.kind = .function) (hl : (ns'.all fun x => decide (scope.names.lookup x = some .local) && !(x == ("__debug__" : Str))) = true) (nd : ns'.Nodup) : FE (compEnvC scope cl C e) C ns' where
  loc := rfl
  kind := hk
  lcl := fun x hx => by
    have := List.all_eq_true.mp hl x hx
    rw [Bool.and_eq_true] at this
    exact ⟨lookup_relabel_local (of_decide_eq_true this.1), by simpa using this.2⟩
  nd := nd
  glb := fe.glb
  blt := fe.blt
theorem compL_body {elt target iter : Expr} {ifs : List Expr} {scope : Scope} {pos : Pos} {cl : List (Str × Addr)} {it : Addr} {n : Nat} {V : Nat → Value → Prop} {p : Nat → Obj → Prop} {RR : Value → Addr → Result → Shared → Prop} (ns' : List Str) (h : St B P0 s0 P L m ((it, p 0) :: own) s)
    (hit : Itr B A P it n V p) (sl : Slf B A P it p) (hn : n ≤ sizeLine) (hcell : ∀ x ∈ scope.names, x.2 ≠ .cell) (hk : scope.kind = .function) (fe : FE e L ns) (hl : (ns'.all fun x => decide (scope.names.lookup x = some .local) && !(x == ("__debug__" : Str))) = true) (nd : ns'.Nodup) (Inv : Nat → PM → List Value → Prop) (h0 : Inv 0 P [])
    (turn : ∀ C D k P' vs' ys v s', FE (compEnvC scope cl C e) C ns' → k < n → V k v → P.le P' → vs'.length = ns'.length → Inv k P' ys → St B P0 s0 P' C (asg ns' vs') ((it, p (k + 1)) :: (D, isLst ys) :: (L, isNs m) :: own) s' →
      wpAny (mdl B) A (assign target (compEnvC scope cl C e) v) (fun _ s₂ => wpAny (mdl B) A (tests ifs (compEnvC scope cl C e)) (fun ok s₃ => TurnL B P0 s0 P A C ns' it D p ((L, isNs m) :: own) Inv k elt (compEnvC scope cl C e) ys ok s₃) no s₂) no s')
    (fin : ∀ C D P' mC ys s', P.le P' → Inv n P' ys → ys.length ≤ n → St B P0 s0 P' C mC ((L, isNs m) :: (D, isLst ys) :: own) s' → RR (.ref D) C (.ok .next) s')
    (ht : ∀ v, letOwnedTupleGo target (.ref it) v = pure () := by intro _; rfl) :
    wpAny (mdl B) A (newList []) (fun acc s₃ => wpAny (mdl B) A (newFunctionEnv scope e.globals cl [] e.qual none .none (some e)) (fun cenv s₄ =>
        codeAny (mdl B) A (.compStart (.ListComp elt [⟨target, iter, ifs, 0⟩] scope pos) 0 (.ref it) acc { cenv with scope := relabel scope e }) (RR acc cenv.locals) s₄) E s₃) E s := by
  refine newLst h (fun D s1 h => ?_) (by rw [sizeLine_eq]; simp)
  refine newNs ns' h hcell hk fun C s2 h => ?_
  refine compL_loop (ns' := ns') (rest := (L, isNs m) :: own) (cenv := compEnvC scope cl C e) hit sl hn Inv h0 (by simp) (h.turn.perm ?_) (fun k P' vs' ys v s' a b c d f g => turn C D k P' vs' ys v s' (feC fe hk hl nd) a b c d f g) (fun P' vs' ys s' a b c g => fin C D P' _ ys s' a b c g.swap) ht
  exact (List.Perm.swap ..).trans (((List.Perm.swap ..).cons _).trans (.swap ..))
/-- into a list comprehension whose value is handed on -/
theorem compL {elt target iter : Expr} {ifs : List Expr} {scope : Scope} {pos : Pos} {cl : List (Str × Addr)} {Q : Value → Shared → Prop} (hclos : closureFor scope e = pure cl) (hkind : scope.kind = .function) (hnames : ∀ x ∈ scope.names, x.2 = .local → scope.names.lookup x.1 = some .local)
    (hs : ∀ x, foldedSetIterable iter e x = pure x)
    (h : wpAny (mdl B) A (eval iter e) (fun x s₁ => wpAny (mdl B) A (pyIter x) (fun it s₂ => wpAny (mdl B) A (newList []) (fun acc s₃ => wpAny (mdl B) A (newFunctionEnv scope e.globals cl [] e.qual none .none (some e)) (fun cenv s₄ =>
        codeAny (mdl B) A (.compStart (.ListComp elt [⟨target, iter, ifs, 0⟩] scope pos) 0 it acc { cenv with scope := relabel scope e }) (compPost (mdl B) A E none Q acc cenv.locals) s₄) E s₃) E s₂) E s₁) E s) :
    wpAny (mdl B) A (eval (.ListComp elt [⟨target, iter, ifs, 0⟩] scope pos) e) Q E s := by
  rw [eval_ListComp]
  exact wpAny_comprehension_free (use := none) rfl hs hclos hkind hnames h
/-- into one that is stored under a name at once -/
theorem compLS {elt target iter : Expr} {ifs : List Expr} {scope : Scope} {pos py spos : Pos} {y : Str} {cl : List (Str × Addr)} {Q : Flow → Shared → Prop} (hsw : swapsWith (.ListComp elt [⟨target, iter, ifs, 0⟩] scope pos) (some (.Name y py)) spos.line e = pure true) (hclos : closureFor scope e = pure cl) (hkind : scope.kind = .function) (hnames : ∀ x ∈ scope.names, x.2 = .local → scope.names.lookup x.1 = some .local)
    (hs : ∀ x, foldedSetIterable iter e x = pure x)
    (h : wpAny (mdl B) A (eval iter e) (fun x s₁ => wpAny (mdl B) A (pyIter x) (fun it s₂ => wpAny (mdl B) A (newList []) (fun acc s₃ => wpAny (mdl B) A (newFunctionEnv scope e.globals cl [] e.qual none .none (some e)) (fun cenv s₄ =>
        codeAny (mdl B) A (.compStart (.ListComp elt [⟨target, iter, ifs, 0⟩] scope pos) 0 it acc { cenv with scope := relabel scope e }) (compPost (mdl B) A E (some (assign (.Name y py) e)) (fun _ s' => Q .next s') acc cenv.locals) s₄) E s₃) E s₂) E s₁) E s) :
    wpAny (mdl B) A (exec (.Assign [.Name y py] (.ListComp elt [⟨target, iter, ifs, 0⟩] scope pos) spos) e) Q E s := by
  rw [exec_Assign_Name_used _ _ _ _ hsw]
  refine wpAny_bind (wpAny_standAt (wpAny_bind ?_))
  show wpAny _ A (do let _ ← comprehension (.ListComp elt [⟨target, iter, ifs, 0⟩] scope pos) scope e _ (newList []) false (eval iter e) (some (assign (.Name y py) e))) _ _ s
  exact wpAny_bind (wpAny_mono (wpAny_comprehension_free (use := some (assign (.Name y py) e)) (Q := fun _ s' => Q .next s') rfl hs hclos hkind hnames h) (fun _ s' hq => wpAny_pure (wpAny_pure hq)) fun _ _ x => x)
/-- the end of a comprehension whose value is handed on -/
theorem compEnd {D : Addr} {mC : Str → Option Value} {Q : Value → Shared → Prop} (h : St B P0 s0 P C mC ((L, isNs m) :: own) s) (q : ∀ s', St B P0 s0 P L m own s' → Q (.ref D) s') : compPost (mdl B) A E none Q (.ref D) C (.ok .next) s := by
  refine ⟨mC, h.ns, fun h' hs => ?_⟩
  exact q _ (h.turn.chgDrop hs.extBut s.toks)
/-- the end of one that is stored -/
theorem compEndS {D : Addr} {mC : Str → Option Value} {y : Str} {py : Pos} {Q : Flow → Shared → Prop} (h : St B P0 s0 P C mC ((L, isNs (asg ns vs)) :: own) s) (fe : FE e L ns) (up : Up ns vs y (.ref D) vs') (q : ∀ s', St B P0 s0 P L (asg ns vs') own s' → Q .next s') :
    compPost (mdl B) A E (some (assign (.Name y py) e)) (fun _ s' => Q .next s') (.ref D) C (.ok .next) s := by
  show wpAny (mdl B) A (assign (.Name y py) e (.ref D)) _ E s
  refine stb h.turn fe up fun s' h' => ?_
  have h2 := h'.turn
  exact ⟨_, h2.ns, fun h3 hs => q _ (h'.chgDrop hs.extBut s'.toks)⟩
end
open PySem PySem.W PySem.W.X PyProof.Rows PySem.Calls
set_option Elab.async false
set_option maxRecDepth 100000
set_option maxHeartbeats 4000000
section
variable {B : Bs} {P0 P P1 : PM} {s0 s : Shared} {L C : Addr} {m mC : Str → Option Value} {own own' : List Own} {A : Around} {E : Value → Shared → Prop} {e : Env} {ns : List Str} {vs vs' : List (Option Value)} {kvs : List (Str × Value)} {prog : Program} {w : World}
theorem iterL2 (h : St B P0 s0 P L m own s) {v : Value} {xs : List Value} {Q : Value → Shared → Prop} (hh : A.handled = none) (r : RL P v xs)
    (q : ∀ it p s', Itr B A P it xs.length (fun k v => xs[k]? = some v) p → Slf B A P it p → St B P0 s0 P L m ((it, p 0) :: own) s' → Q (.ref it) s') : wpAny (mdl B) A (pyIter v) Q E s := by
  obtain ⟨l, o, rfl, p, i⟩ := r
  obtain ⟨n, e⟩ := id i
  exact wpAny_pyIter_list ⟨_, h.at p, by rw [e], n, by rw [e]⟩ (q _ _ _ (Itr.list hh p i) (fun _ h q => selfLI h q) (h.new _ rfl ⟨rfl, rfl⟩))
theorem iterK2 (h : St B P0 s0 P L m own s) {v : Value} {Q : Value → Shared → Prop} (hh : A.handled = none) (r : RD B P v kvs)
    (q : ∀ it p s', Itr B A P it kvs.length (fun k v => ∃ x y t, kvs[k]? = some (x, y) ∧ v = .str x t) p → Slf B A P it p → St B P0 s0 P L m ((it, p 0) :: own) s' → Q (.ref it) s') : wpAny (mdl B) A (pyIter v) Q E s := by
  obtain ⟨d, o, rfl, hd, pd, es, ep, i1, i2, i3, i4, i5⟩ := r
  have da : ∀ {P0 : PM} {s0 : Shared} {L : Addr} {P' : PM} {own' m' s'}, P.le P' → St B P0 s0 P' L m' own' s' → s'.heap.DictAt (skd B) d kvs ep := fun l' h' => ⟨o, es, h'.at (l' _ _ pd), i1, i2, i3, i4, i5⟩
  refine wpAny_pyIter_dict (knd := skd B) hd (da (PM.le.refl _) h) (q _ (isKI d kvs.length ep) _ ⟨?_, ?_⟩ ?_ (h.new _ rfl ⟨rfl, rfl⟩))
  · intro k P0 s0 P' L m own s E Q hk l h q
    obtain ⟨oi, ei, ci, di⟩ := h.head
    refine wpAny_pyNext_dict_item (knd := skd B) (k := (kvs[k]).1) (v := (kvs[k]).2) ⟨oi, ei, ci, di⟩ (da l h) (by simp [hk]) fun key h' hkey hit hs => ?_
    obtain ⟨t, rfl⟩ := is_str hkey
    obtain ⟨oi', ei', ci', di'⟩ := hit
    exact q _ _ ⟨(kvs[k]).1, (kvs[k]).2, t, by simp [hk], rfl⟩ (h.chg0 hs.extBut ei' ⟨ci', di'⟩ s.toks)
  · intro P0 s0 P' L m own s E Q l h q
    obtain ⟨oi, ei, ci, di⟩ := h.head
    exact wpAny_pyNext_dict_end (knd := skd B) hh ⟨oi, ei, ci, di⟩ (da l h) (by simp) fun h' he => q _ (h.chgDrop he s.toks)
  · intro k P0 s0 P' L m own s E Q l h q
    obtain ⟨oi, ei, ci, di⟩ := h.head
    exact wpAny_pyIter_keyiter ⟨oi, ei, ci, di⟩ q
/-! range -/
noncomputable def isRg (n : Int) (o : Obj) : Prop := ∃ t u v, o = { cls := .type "range", dict := none, data := .fields #[.int 0 t, .int n u, .int 1 v], slots := #[] }
noncomputable def isRI (n : Nat) (k : Nat) (o : Obj) : Prop := o = { cls := .type "range_iterator", dict := none, data := .fields #[rawInt k, rawInt ((n : Int) - k), rawInt 1], slots := #[] }
theorem rngNew {n : Int} {t : Tok} {Q : Value → Shared → Prop} (h : St B P0 s0 P L m own s) (q : ∀ r s', St B P0 s0 P L m ((r, isRg n) :: own) s' → Q (.ref r) s') : wpAny (mdl B) A (call (.type "range") [.int n t]) Q E s :=
  call_range_1 (q _ _ ((h.new (p := isRg n) _ rfl ⟨_, _, _, rfl⟩).tok _))
theorem rngIter {r : Addr} {n : Nat} {Q : Value → Shared → Prop} (hh : A.handled = none) (h : St B P0 s0 P L m ((r, isRg n) :: own) s) (hsm : Builtin.Range.small 0 n 1 = true)
    (q : ∀ it p s', Itr B A P it n (fun k v => ∃ t, v = .int k t) p → Slf B A P it p → St B P0 s0 P L m ((it, p 0) :: own) s' → Q (.ref it) s') : wpAny (mdl B) A (pyIter (.ref r)) Q E s := by
  obtain ⟨o, e, t, u, v, rfl⟩ := h.head
  have hsz : Builtin.Range.rangeSize 0 n 1 = (n : Int) := by rw [rangeSize_one]; split <;> lia
  refine wpAny_pyIter_range e hsm (q _ (isRI n) _ ⟨?_, ?_⟩ ?_ ((h.new _ rfl ?_).swap.drop))
  · intro k P0 s0 P' L m own s E Q hk l h q
    obtain ⟨oi, ei, rfl⟩ := h.head
    refine wpAny_pyNext_range_item ei (by lia) fun h' hit hs => ?_
    refine q _ _ ⟨_, rfl⟩ (h.chg0 hs.extBut hit ?_ _)
    show isRI n (k + 1) _
    unfold isRI
    have e1 : ((k : Int) + 1) = ((k + 1 : Nat) : Int) := by lia
    have e2 : ((n : Int) - k - 1) = (n : Int) - ((k + 1 : Nat) : Int) := by lia
    rw [e1, e2]
  · intro P0 s0 P' L m own s E Q l h q
    obtain ⟨oi, ei, rfl⟩ := h.head
    exact wpAny_pyNext_range_end hh ei (by lia) fun h' he => q _ (h.chgDrop he _)
  · intro k P0 s0 P' L m own s E Q l h q
    obtain ⟨oi, ei, rfl⟩ := h.head
    exact wpAny_pyIter_rangeiter ei q
  · rw [hsz]
    simp [isRI]
/-! sum, len -/
theorem sumL {v : Value} {xs : List Value} {is : List Int} {Q : Value → Shared → Prop} (h : St B P0 s0 P L m own s) (hh : A.handled = none) (r : RL P v xs) (li : LR (RI P) xs is) (hf : ∀ j, j ≤ is.length → InLong ((is.take j).sum)) (hf1 : ∀ i ∈ is, InLong i)
    (q : ∀ t s', St B P0 s0 P L m own s' → Q (.int is.sum t) s') : wpAny (mdl B) A (call (.builtin "sum") [v]) Q E s := by
  obtain ⟨l, o, rfl, p, n, rfl⟩ := r
  have hl : s.heap.IsList l xs.toArray := ⟨_, h.at p, rfl, n, rfl⟩
  have len := li.length
  refine call_sum_walk (wpAny_pyIter_list hl ?_)
  have hlt : l < s.heap.objs.size := Heap.lt_size (h.at p)
  refine ⟨_, _, _, xs.toArray.size, _, _, fun i => is.getD i 0, rfl, Walks.list (A := A.in1) hh s.heap.objs.size l (Nat.ne_of_lt hlt) xs.toArray, ⟨⟨_, Heap.get?_push_size _ rfl, rfl, rfl⟩, hl.push _⟩, ?_, ?_, ?_, fun h' tk t' hk => ?_⟩
  · intro b hb
    show b < (s.heap.push _).objs.size
    rw [Heap.size_push]
    simp only [List.mem_cons, List.not_mem_nil, or_false] at hb
    rcases hb with rfl | rfl
    · exact Nat.lt_succ_self _
    · exact Nat.lt_succ_of_lt hlt
  · intro i v hv
    obtain ⟨j, ej, t, rfl⟩ := li.at (n := i) (by simpa using hv)
    exact ⟨t, by simp [List.getD, ej]⟩
  · intro j hj
    have hj' : j < is.length := by rw [← len]; simpa using hj
    refine ⟨?_, ?_⟩
    · have : is.getD j 0 = is[j] := by simp [List.getD, hj']
      show InLong (is.getD j 0)
      rw [this]; exact hf1 _ (List.getElem_mem hj')
    · show InLong (preSum (fun i => is.getD i 0) (j + 1))
      rw [PyProof.Rows.preSum_getD]; exact hf _ hj'
  · have : preSum (fun i => is.getD i 0) xs.toArray.size = is.sum := by rw [PyProof.Rows.preSum_getD]; simp [len]
    rw [this]
    refine q t' _ (h.keep (fun b o e => hk b o ?_ (Heap.get?_push_of_some _ e)) rfl h.wd.gb)
    simp only [List.mem_cons, List.not_mem_nil, or_false]
    exact Nat.ne_of_lt (Heap.lt_size e)
theorem lenL {v : Value} {xs : List Value} {Q : Value → Shared → Prop} (h : St B P0 s0 P L m own s) (r : RL P v xs) (hf : xs.length ≤ sizeLine) (q : ∀ t s', St B P0 s0 P L m own s' → Q (.int xs.length t) s') : wpAny (mdl B) A (call (.builtin "len") [v]) Q E s := by
  obtain ⟨l, o, rfl, p, n, rfl⟩ := r
  rw [sizeLine_eq] at hf
  refine call_len_list (items := xs.toArray) ⟨_, h.at p, rfl, n, rfl⟩ (by simp; lia) ?_
  rw [List.size_toArray]
  exact q _ _ (h.tok _)
/-! cells -/
noncomputable def isCel (v : Option Value) (o : Obj) : Prop := o.data = .cell v
inductive Ow : List Own → Addr → (Obj → Prop) → (Obj → Prop) → List Own → Prop
  | here {c : Addr} {p p' : Obj → Prop} {own : List Own} : Ow ((c, p) :: own) c p p' ((c, p') :: own)
  | there {q : Own} {c : Addr} {p p' : Obj → Prop} {own own' : List Own} : Ow own c p p' own' → Ow (q :: own) c p p' (q :: own')
theorem Ow.split {c : Addr} {p p' : Obj → Prop} (h : Ow own c p p' own') : ∃ pre post, own = pre ++ (c, p) :: post ∧ own' = pre ++ (c, p') :: post := by
  induction h with
  | here => exact ⟨[], _, rfl, rfl⟩
  | @there q c p p' own own' h ih =>
    obtain ⟨pre, post, rfl, rfl⟩ := ih
    exact ⟨q :: pre, post, rfl, rfl⟩
structure CE (e : Env) (cs : List (Str × Addr)) : Prop where
  ok : ∀ x c, (x, c) ∈ cs → (e.kindOf x = some .cell ∨ (e.kindOf x = some .free ∧ (x == ("__classdict__" : Str)) = false)) ∧ e.cells.lookup x = some c ∧ (x == ("__debug__" : Str)) = false
theorem St.cell (h : St B P0 s0 P L m own s) {c : Addr} {v : Option Value} (hm : (c, isCel v) ∈ own) : s.heap.IsCell c v := let ⟨⟨o, e, z⟩, _⟩ := h.own _ hm; ⟨o, e, z⟩
theorem ldc {x : Str} {pos : Pos} {v : Value} {c : Addr} {cs : List (Str × Addr)} {Q : Value → Shared → Prop} {M : Model} (h : St B P0 s0 P L m own s) (fe : FE e L ns) (ce : CE e cs) (hx : (x, c) ∈ cs) (hm : (c, isCel (some v)) ∈ own) (q : Q v s) : wpAny M A (eval (.Name x pos) e) Q E s := by
  obtain ⟨h1, h2, h3⟩ := ce.ok x c hx
  refine wpAny_Name ?_ h3
  rcases h1 with h1 | ⟨h1, h4⟩
  · exact wpAny_loadName_cell fe.kind h1 h2 (h.cell hm) q
  · exact wpAny_loadName_free fe.kind h1 h2 (h.cell hm) q h4
theorem stc {x : Str} {v : Value} {v0 : Option Value} {c : Addr} {cs : List (Str × Addr)} {Q : Unit → Shared → Prop} {M : Model} (h : St B P0 s0 P L m own s) (fe : FE e L ns) (ce : CE e cs) (hk : e.kindOf x = some .cell) (hx : (x, c) ∈ cs) (ow : Ow own c (isCel v0) (isCel (some v)) own') (q : ∀ s', St B P0 s0 P L m own' s' → Q () s') : wpAny M A (storeName e x v) Q E s := by
  obtain ⟨_, h2, h3⟩ := ce.ok x c hx
  obtain ⟨pre, post, rfl, rfl⟩ := ow.split
  refine wpAny_storeName_cell fe.kind hk h2 (h.cell (c := c) (v := v0) (by simp)) fun h' ⟨o, eo, z⟩ hs => q _ (h.chg hs.extBut eo z s.toks)
theorem stcb {x : Str} {pos : Pos} {v : Value} {v0 : Option Value} {c : Addr} {cs : List (Str × Addr)} {Q : Unit → Shared → Prop} {M : Model} (h : St B P0 s0 P L m own s) (fe : FE e L ns) (ce : CE e cs) (hk : e.kindOf x = some .cell) (hx : (x, c) ∈ cs) (ow : Ow own c (isCel v0) (isCel (some v)) own') (q : ∀ s', St B P0 s0 P L m own' s' → Q () s') : wpAny M A (assign (.Name x pos) e v) Q E s :=
  wpAny_assign_Name (stc h fe ce hk hx ow q)
end
open PySem PySem.W PySem.W.X PyProof.Rows PySem.Calls
set_option Elab.async false
set_option maxRecDepth 100000
set_option maxHeartbeats 4000000
theorem len1 {α : Type} {l : List α} (h : l.length = 1) : ∃ a, l = [a] := List.length_eq_one_iff.mp h
theorem mgn_sum {B : Bs} (ok : Ok B) : B.mg "sum" = none := mg_none_of ok.X ok.g (by kernel_rfl)
theorem mgn_len {B : Bs} (ok : Ok B) : B.mg "len" = none := mg_none_of ok.X ok.g (by kernel_rfl)
theorem mgn_range {B : Bs} (ok : Ok B) : B.mg "range" = none := mg_none_of ok.X ok.g (by kernel_rfl)
/-- the sums of small numbers fit -/
theorem sum_small {is : List Int} {b : Int} (hb : 0 ≤ b) (h : ∀ i ∈ is, -b ≤ i ∧ i ≤ b) : -(b * is.length) ≤ is.sum ∧ is.sum ≤ b * is.length := by
  induction is with
  | nil => simp
  | cons i is ih =>
    have h1 := h i (.head _)
    have h2 := ih fun j hj => h j (.tail _ hj)
    rw [List.sum_cons, List.length_cons]
    have : b * ((is.length + 1 : Nat) : Int) = b * is.length + b := by rw [Int.natCast_add, Int.mul_add]; simp
    rw [this]
    lia
theorem sums_fit {is : List Int} (hl : is.length ≤ 1000) (h : ∀ i ∈ is, -100000 ≤ i ∧ i ≤ 100000) : (∀ j, j ≤ is.length → InLong ((is.take j).sum)) ∧ ∀ i ∈ is, InLong i := by
  refine ⟨fun j hj => ?_, fun i hi => ?_⟩
  · have := sum_small (is := is.take j) (b := 100000) (by lia) fun i hi => h i (List.mem_of_mem_take hi)
    have h2 : (is.take j).length ≤ 1000 := Nat.le_trans (List.length_take_le _ _) (by lia)
    unfold InLong
    constructor <;> lia
  · have := h i hi
    unfold InLong
    constructor <;> lia
noncomputable def sumsOf (cs : List Cl) : Quad := ((cs.length : Int), (cs.map (·.p)).sum, (cs.map (·.o)).sum, (cs.map (·.o)).sum + (cs.map (·.x)).sum)
noncomputable def Cl.sm (c : Cl) : Prop := (0 ≤ c.p ∧ c.p ≤ 1) ∧ (0 ≤ c.o ∧ c.o ≤ 3) ∧ (0 ≤ c.x ∧ c.x ≤ 2)
theorem RCls.mono {P P' : PM} (l : P.le P') {v : Value} {cs : List Cl} (h : RLs RCl P v cs) : RLs RCl P' v cs := RLs.mono (R := RCl) (fun _ _ _ _ l h => RCl.mono l h) l h
inductive RQ (P : PM) (v : Value) (q : Quad) : Prop
  | mk (t1 : _) (t2 : _) (t3 : _) (t4 : _) (x1 : RT P v [.int q.1 t1, .int q.2.1 t2, .int q.2.2.1 t3, .int q.2.2.2 t4])
theorem take_map_succ {α β : Type} {l : List α} {k : Nat} {a : α} (f : α → β) (e : l[k]? = some a) : (l.take (k + 1)).map f = (l.take k).map f ++ [f a] := by
  rw [List.take_add_one, e, List.map_append]; rfl
theorem sum147 {B : Bs} {P0 P : PM} {s0 s : Shared} {L : Addr} {vs : List (Option Value)} {own : List Own} {A : Around} {E : Value → Shared → Prop} {e : Env} {ns : List Str} {K : Int} {k1 : Nat} {p1 p2 p3 p4 p5 pos cpos sp : Pos} {scope : Scope} {v : Value} {cs : List Cl} {Q : Value → Shared → Prop} (f : Cl → Int)
    (ok : Ok B) (h : St B P0 s0 P L (asg ns vs) own s) (fe : FE e L ns) (lk : Lk ns vs "calls" v) (hh : A.handled = none) (r : RLs RCl P v cs) (hl : cs.length ≤ 10) (hc : ∀ c ∈ cs, -100000 ≤ f c ∧ f c ≤ 100000) (h0 : 0 ≤ K) (h1 : K < 2 ^ 63)
    (hK : ∀ (c : Cl) t1 t2 t3 t4 t5 t6, ∃ t, ([.int c.f t1, .int c.g t2, .int c.r t3, .int c.p t4, .int c.o t5, .int c.x t6] : List Value)[K.toNat]? = some (.int (f c) t))
    (hk : e.kindOf "sum" = some .globalImplicit) (hclos : closureFor scope e = pure []) (hkind : scope.kind = .function) (hnames : ∀ x ∈ scope.names, x.2 = .local → scope.names.lookup x.1 = some .local) (hcell : ∀ x ∈ scope.names, x.2 ≠ .cell) (hx : ((["call"] : List Str).all fun x => decide (scope.names.lookup x = some .local) && !(x == ("__debug__" : Str))) = true)
    (q : ∀ P' t s', P.le P' → St B P0 s0 P' L (asg ns vs) own s' → Q (.int ((cs.map f).sum) t) s') :
    wpAny (mdl B) A (eval (.Call (.Name "sum" sp) [.ListComp (.Subscript (.Name "call" p1) (.Constant (.int K) k1 p2) p3) [⟨.Name "call" p4, .Name "calls" p5, [], 0⟩] scope pos] [] cpos) e) Q E s := by
  obtain ⟨vx, rl, lr⟩ := r
  have len := lr.length
  refine Call_ ?_ (by with_unfolding_all rfl)
  refine ldb ok h fe (mgn_sum ok) boot_sum hk ?_
  with_reducible refine callB ?_ rfl rfl
  refine args_cons ?_
  refine compL (cl := []) hclos hkind hnames (by intro _; rfl) ?_
  refine ldv h fe lk ?_
  refine iterL2 h hh rl fun it p s1 hit sl h => ?_
  refine compL_body ["call"] h hit sl (by rw [len, sizeLine_eq]; lia) hcell hkind fe hx (by decide) (fun k P' ys => LR (RI P') ys ((cs.take k).map f)) .nil ?_ ?_
  · rintro C D k P' vs' ys x s1 fe hk hv l1 hl inv h
    obtain ⟨a, rfl⟩ := len1 hl
    obtain ⟨c, ec, t1, t2, t3, t4, t5, t6, rc⟩ := lr.at hv
    obtain ⟨t, ht⟩ := hK c t1 t2 t3 t4 t5 t6
    with_reducible refine stb h fe (by walk_at "up") fun s1 h => ?_
    refine wpAny_tests_nil ?_
    unfold TurnL
    first | walk_at "n" | rw [if_pos rfl]
    walk_at "h"
    with_reducible refine Subscript_ ?_
    with_reducible refine ldv h fe (by walk_at "lk") ?_
    with_reducible refine kint h fun _ s1 h => ?_
    refine atT h (rc.mono l1) h0 h1 ht ?_ (by intros; with_unfolding_all rfl)
    refine ⟨P', _, l1, rfl, ?_, h⟩
    show LR (RI P') _ ((cs.take (k + 1)).map f)
    rw [take_map_succ _ ec]
    exact inv.snoc ⟨_, rfl⟩
  · rintro C D P' mC ys s1 l1 inv hy h
    refine compEnd h fun s1 h => ?_
    obtain ⟨P2, o2, l2, e2, i2, h⟩ := h.freeze
    walk_at "h"
    with_reducible refine args_nil ?_
    rw [len, List.take_length] at inv
    obtain ⟨f1, f2⟩ := sums_fit (is := cs.map f) (by rw [List.length_map]; lia) fun i hi => by obtain ⟨c, hm, rfl⟩ := List.mem_map.mp hi; exact hc c hm
    exact sumL h hh ⟨_, _, rfl, e2, i2⟩ inv f1 f2 fun t s1 h => q _ _ _ (l1.trans l2) h
theorem spec147 {B : Bs} {P : PM} {s : Shared} (ok : Ok B) (wd : Wd B P s) {v : Value} {cs : List Cl} (hl : cs.length ≤ 10) (hc : ∀ c ∈ cs, c.sm) (r : RLs RCl P v cs) :
    Spec B (AA 480 1980) (.ref 147) [v] P s (fun P' v => RQ P' v (sumsOf cs)) := by
  refine enterK ok wd 147 19 146 ["calls"] ["own"] (fun p => by kernel_rfl) (fun p => by kernel_rfl) (fun p => by kernel_rfl) (fun p => by kernel_rfl) (fun p => by kernel_rfl) (fun p => ⟨⟨by kernel_rfl, by kernel_rfl⟩, by kernel_rfl, by kernel_rfl, by kernel_rfl, by kernel_rfl, by kernel_rfl⟩) (by kernel_rfl) (by kernel_rfl) rfl (by decide) ?_
  intro L s1 h fe
  dsimp only [List.cons_append, List.nil_append, List.map] at h fe
  refine seq ?_
  walk_at "h"
  with_reducible refine wpAny_Assign_Name ?_ (by with_unfolding_all rfl)
  walk_at "h"
  refine sum147 (cs := cs) (·.o) ok h fe (by walk_at "lk") rfl r hl (fun c hm => by have := hc c hm; unfold Cl.sm at this; lia) (by decide) (by decide) (fun c t1 t2 t3 t4 t5 t6 => ⟨_, rfl⟩) (by kernel_rfl) (by with_unfolding_all rfl) rfl (by decide) (by decide) (by decide) fun P' t s1 l h => ?_
  have r : RLs RCl P' v cs := RCls.mono l r
  with_reducible refine stv h fe (by walk_at "up") fun s1 h => ?_
  walk_at "n"
  walk_at "h"
  with_reducible refine seq ?_
  walk_at "h"
  with_reducible refine wpAny_Return_some ?_
  walk_at "h"
  with_reducible refine Tuple_ ?_
  walk_at "h"
  with_reducible refine args_cons ?_ (by with_unfolding_all rfl)
  walk_at "h"
  refine Call_ ?_ (by with_unfolding_all rfl)
  refine ldb ok h fe (mgn_len ok) boot_len (by kernel_rfl) ?_
  with_reducible refine callB ?_ rfl rfl
  walk_at "h"
  with_reducible refine args_cons ?_ (by with_unfolding_all rfl)
  with_reducible refine ldv h fe (by walk_at "lk") ?_
  walk_at "h"
  with_reducible refine args_nil ?_
  obtain ⟨vx, rl, lr⟩ := id r
  refine lenL h rl (by rw [lr.length, sizeLine_eq]; lia) fun t9 s1 h => ?_
  walk_at "h"
  with_reducible refine args_cons ?_ (by with_unfolding_all rfl)
  walk_at "h"
  refine sum147 (cs := cs) (·.p) ok h fe (by walk_at "lk") rfl r hl (fun c hm => by have := hc c hm; unfold Cl.sm at this; lia) (by decide) (by decide) (fun c t1 t2 t3 t4 t5 t6 => ⟨_, rfl⟩) (by kernel_rfl) (by with_unfolding_all rfl) rfl (by decide) (by decide) (by decide) fun P' t s1 l h => ?_
  have r := RCls.mono l r
  walk_at "h"
  with_reducible refine args_cons ?_ (by with_unfolding_all rfl)
  with_reducible refine ldv h fe (by walk_at "lk") ?_
  walk_at "h"
  with_reducible refine args_cons ?_ (by with_unfolding_all rfl)
  walk_at "h"
  with_reducible refine wpAny_BinOp ?_
  with_reducible refine ldv h fe (by walk_at "lk") ?_
  walk_at "h"
  refine sum147 (cs := cs) (·.x) ok h fe (by walk_at "lk") rfl r hl (fun c hm => by have := hc c hm; unfold Cl.sm at this; lia) (by decide) (by decide) (fun c t1 t2 t3 t4 t5 t6 => ⟨_, rfl⟩) (by kernel_rfl) (by with_unfolding_all rfl) rfl (by decide) (by decide) (by decide) fun P' t s1 l h => ?_
  with_reducible refine addN h fun _ s1 h => ?_
  walk_at "h"
  with_reducible refine args_nil ?_
  refine newTup h fun tt s1 h => ?_
  obtain ⟨P5, o5, l5, e5, i5, h⟩ := h.freeze
  with_reducible refine Nx.ret ?_
  rw [lr.length] at i5
  exact h.out ⟨_, _, _, _, _, _, rfl, e5, i5⟩
open PySem PySem.W PySem.W.X PyProof.Rows PySem.Calls
set_option Elab.async false
set_option maxRecDepth 100000
set_option maxHeartbeats 4000000
noncomputable abbrev envC (B : Bs) (f L : Addr) : Env := callEnvC (fdAt B.w.params f) L f
noncomputable def celsOf (cs : List (Str × Addr)) (cm : Str → Option Value) : List Own := cs.map fun q => (q.2, isCel (cm q.1))
section
variable {B : Bs} {P0 P P1 : PM} {s0 s : Shared} {L C : Addr} {m mC : Str → Option Value} {own own' : List Own} {A : Around} {E : Value → Shared → Prop} {e : Env} {ns : List Str} {vs vs' : List (Option Value)} {kvs : List (Str × Value)} {prog : Program} {w : World}
theorem asg_none_of : ∀ (l : List Str) (us : List (Option Value)) (x : Str), x ∉ l → asg l us x = none
  | [], us, x, _ => by simp [asg]
  | y :: l, [], x, _ => by simp [asg]
  | y :: l, u :: us, x, hy => by
    simp only [asg]
    rw [if_neg (fun e => by subst e; exact hy (.head _))]
    exact asg_none_of l us x fun h => hy (.tail _ h)
theorem bindL_zip (kd : Str → Option NameKind) : ∀ (ps : List Str) (args : List Value) (m0 : Str → Option Value), (∀ x ∈ ps, kd x = some .local) → ps.Nodup → ps.length = args.length → ∀ x, bindL kd (ps.zip args) m0 x = if x ∈ ps then asg ps (args.map some) x else m0 x
  | [], [], m0, _, _, _, x => by simp [bindL]
  | p :: ps, a :: args, m0, hk, nd, hl, x => by
    rw [List.nodup_cons] at nd
    simp only [List.zip_cons_cons, bindL]
    rw [if_pos (hk p (.head _)), bindL_zip kd ps args _ (fun y hy => hk y (.tail _ hy)) nd.2 (by simpa using hl) x]
    by_cases hx : x ∈ ps
    · have hne : x ≠ p := fun e => nd.1 (e ▸ hx)
      simp only [hx, if_true, List.mem_cons, or_true, List.map_cons, asg, hne, if_false]
    · by_cases hp : x = p
      · subst hp; simp [hx, asg]
      · simp [hx, hp]
  | [], _ :: _, _, _, _, hl, _ => by simp at hl
  | _ :: _, [], _, _, _, hl, _ => by simp at hl
theorem bindC_zip (kd : Str → Option NameKind) : ∀ (ps : List Str) (args : List Value) (m0 : Str → Option Value), (∀ x ∈ ps, kd x = some .local) → bindC kd (ps.zip args) m0 = m0
  | [], _, m0, _ => rfl
  | _ :: _, [], m0, _ => rfl
  | p :: ps, a :: args, m0, hk => by
    simp only [List.zip_cons_cons, bindC]
    rw [if_pos (hk p (.head _))]
    exact bindC_zip kd ps args m0 fun y hy => hk y (.tail _ hy)
theorem lookup_nodup {α : Type} : ∀ {l : List (Str × α)}, (l.map (·.1)).Nodup → ∀ q ∈ l, l.lookup q.1 = some q.2
  | x :: l, nd, q, hq => by
    rw [List.map_cons, List.nodup_cons] at nd
    rw [List.lookup_cons]
    rcases List.mem_cons.mp hq with rfl | hq
    · simp
    · have hne : q.1 ≠ x.1 := fun e => nd.1 (e ▸ List.mem_map.mpr ⟨q, hq, rfl⟩)
      rw [show (q.1 == x.1) = false from beq_eq_false_iff_ne.mpr hne]
      exact lookup_nodup nd.2 q hq
/-- a def of the text that keeps names in cells is entered -/
theorem enterCQ (ok : Ok B) (wd : Wd B P s) (f k c : Nat) (ps all : List Str) (vals : List (Option Value)) (cm : Str → Option Value) (cs : Nat → List (Str × Addr)) {d u : Nat} {args : List Value} {Q : Value → Shared → Prop}
    (hK : ∀ p, fnHere (hz.heap_157 p) f = true) (hc : ∀ p, (fdAt p f).code = .ref c) (hci : ∀ p, codeIn (hz.heap_157 p) (.ref c) (fdAt p f).qualname = true)
    (hbody : ∀ p, (fdAt p f).body = .stmts (bodyAt k)) (hbind : ∀ p, bindArgs (fdAt p f) ⟨args, []⟩ = pure (ps.zip args))
    (hfl : ∀ p, ((fdAt p f).globals = mainGlobals ∧ (fdAt p f).builtins = builtinsNs) ∧ (fdAt p f).scope.isCoroutine = false ∧ (fdAt p f).scope.isGenerator = false ∧ (fdAt p f).scope.kind = .function ∧ (fdAt p f).closure = [] ∧
      (all.all fun x => decide ((fdAt p f).scope.names.lookup x = some .local) && !(x == ("__debug__" : Str))) = true)
    (hcs : ∀ p n, cellsFrom (n + 1) (fdAt p f).scope.names [] = cs n)
    (hck : ∀ p n, (((cs n).map (·.1)).all fun x => decide ((fdAt p f).scope.names.lookup x = some .cell) && !(x == ("__debug__" : Str))) = true) (hcn : ∀ n, decide ((cs n).map (·.1)).Nodup = true)
    (hnd : decide all.Nodup = true) (htb : decide (f ∉ tabs ∧ c ∉ tabs) = true) (hroom : d < recursionLimit)
    (hkd : ∀ p n, ∀ x ∈ ps, (fdAt p f).scope.names.lookup x = some .local ∨ (fdAt p f).scope.names.lookup x = some .cell ∧ ((cs n).lookup x).isSome = true)
    (hbl : ∀ L x, bindL (callEnvC (fdAt B.w.params f) L f).kindOf (ps.zip args) (fun _ => none) x = asg all vals x) (hbc : ∀ L, bindC (callEnvC (fdAt B.w.params f) L f).kindOf (ps.zip args) (fun _ => none) = cm)
    (h : ∀ L s1, St B P s P L (asg all vals) (celsOf (cs L) cm) s1 → FE (envC B f L) L all → CE (envC B f L) (cs L) →
      wpAny (mdl B) (AA (d + 1) (u + 3)) (execs (bodyAt k) (envC B f L)) (fun fl s' => Q (match fl with | .ret v => v | _ => .none) s') (fun _ _ => False) s1) :
    wpAny (mdl B) (AA d u) (call (.ref f) args) Q (fun _ _ => False) s := by
  obtain ⟨oc, od, osl, e⟩ := fnHere_of (hK B.w.params)
  obtain ⟨h1, h2, h3, h4, h5, h6⟩ := hfl B.w.params
  have ht := of_decide_eq_true htb
  have hnd := of_decide_eq_true hnd
  have hloc : ∀ x ∈ all, (fdAt B.w.params f).scope.names.lookup x = some .local ∧ (x == ("__debug__" : Str)) = false := fun x hx => by
    have := List.all_eq_true.mp h6 x hx
    rw [Bool.and_eq_true] at this
    exact ⟨of_decide_eq_true this.1, by simpa using this.2⟩
  refine wpAny_call (codeAny_call_cells (A := AA d u) (vals := args) (binds := ps.zip args) hroom (wd.base (ok.X _ _ e) ht.1) rfl (wd.lim ok) (hc B.w.params ▸ wd.codeRec (codeRec_of ok.X (hci B.w.params)) ht.2) (hbody _) (hbind _) h5
    (fun x hx => by rw [hcs B.w.params s.heap.objs.size]; exact hkd B.w.params _ x.1 (List.of_mem_zip hx).1) (fun s1 x => ?_) h2 h3 h4)
  have hcell : (callEnvC (fdAt B.w.params f) s.heap.objs.size f).cells = cs s.heap.objs.size := hcs B.w.params s.heap.objs.size
  rw [hcell, hbc] at x
  obtain ⟨⟨⟨h', tk, rfl⟩, ns0, kp0, fr0⟩, xc, xa, xb⟩ := x
  have base : St B P s P s.heap.objs.size (bindL (callEnvC (fdAt B.w.params f) s.heap.objs.size f).kindOf (ps.zip args) fun _ => none) [] { s with heap := h', toks := tk } := St.start wd ns0 kp0
  have base : St B P s P s.heap.objs.size (asg all vals) [] { s with heap := h', toks := tk } := base.cong fun y => hbl _ y
  have full : St B P s P s.heap.objs.size (asg all vals) (celsOf (cs s.heap.objs.size) cm) { s with heap := h', toks := tk } := by
    have lkq : ∀ q ∈ cs s.heap.objs.size, (cs s.heap.objs.size).lookup q.1 = some q.2 := lookup_nodup (of_decide_eq_true (hcn _))
    refine { base with own := fun q hq => ?_, nd := ?_ }
    · obtain ⟨r, hr, rfl⟩ := List.mem_map.mp hq
      obtain ⟨o, eo, z⟩ := xc r.1 r.2 (lkq r hr)
      have gt : s.heap.objs.size < r.2 := xb r.1 r.2 hr
      have nn : s.heap.get? r.2 = none := by
        cases q : s.heap.get? r.2 with
        | none => rfl
        | some o' => exact absurd (Heap.lt_size q) (Nat.not_lt.mpr (Nat.le_of_lt gt))
      refine ⟨⟨o, eo, z⟩, Nat.ne_of_gt gt, ?_, nn, fun hta => ?_⟩
      · cases q : P r.2 with
        | none => rfl
        | some o' => rw [wd.fz _ _ q] at nn; cases nn
      · obtain ⟨o', e'⟩ := wd.tabAt hta
        rw [nn] at e'; cases e'
    · exact List.pairwise_map.mpr xa
  refine wpAny_mono (h s.heap.objs.size _ full ⟨rfl, h4, fun x hx => hloc x hx, hnd, h1.1, h1.2⟩ ⟨fun y c hy => ?_⟩) (fun fl s' o => o) fun _ _ x => x.elim
  have := List.all_eq_true.mp (hck B.w.params s.heap.objs.size) y (List.mem_map.mpr ⟨_, hy, rfl⟩)
  simp only [Bool.and_eq_true, decide_eq_true_eq] at this
  exact ⟨.inl this.1, by rw [hcell]; exact lookup_nodup (of_decide_eq_true (hcn _)) _ hy, by simpa using this.2⟩
theorem enterC (ok : Ok B) (wd : Wd B P s) (f k c : Nat) (ps more : List Str) (cs : Nat → List (Str × Addr)) {d u : Nat} {args : List Value} {Q : Value → Shared → Prop}
    (hK : ∀ p, fnHere (hz.heap_157 p) f = true) (hc : ∀ p, (fdAt p f).code = .ref c) (hci : ∀ p, codeIn (hz.heap_157 p) (.ref c) (fdAt p f).qualname = true)
    (hbody : ∀ p, (fdAt p f).body = .stmts (bodyAt k)) (hbind : ∀ p, bindArgs (fdAt p f) ⟨args, []⟩ = pure (ps.zip args))
    (hfl : ∀ p, ((fdAt p f).globals = mainGlobals ∧ (fdAt p f).builtins = builtinsNs) ∧ (fdAt p f).scope.isCoroutine = false ∧ (fdAt p f).scope.isGenerator = false ∧ (fdAt p f).scope.kind = .function ∧ (fdAt p f).closure = [] ∧
      ((ps ++ more).all fun x => decide ((fdAt p f).scope.names.lookup x = some .local) && !(x == ("__debug__" : Str))) = true)
    (hcs : ∀ p n, cellsFrom (n + 1) (fdAt p f).scope.names [] = cs n)
    (hck : ∀ p n, (((cs n).map (·.1)).all fun x => decide ((fdAt p f).scope.names.lookup x = some .cell) && !(x == ("__debug__" : Str))) = true) (hcn : ∀ n, decide ((cs n).map (·.1)).Nodup = true)
    (hnd : decide (ps ++ more).Nodup = true) (htb : decide (f ∉ tabs ∧ c ∉ tabs) = true) (hlen : ps.length = args.length) (hroom : d < recursionLimit)
    (h : ∀ L s1, St B P s P L (asg (ps ++ more) (args.map some ++ more.map fun _ => none)) (celsOf (cs L) fun _ => none) s1 → FE (envC B f L) L (ps ++ more) → CE (envC B f L) (cs L) →
      wpAny (mdl B) (AA (d + 1) (u + 3)) (execs (bodyAt k) (envC B f L)) (fun fl s' => Q (match fl with | .ret v => v | _ => .none) s') (fun _ _ => False) s1) :
    wpAny (mdl B) (AA d u) (call (.ref f) args) Q (fun _ _ => False) s := by
  have hnd' := of_decide_eq_true hnd
  have ndp : ps.Nodup := (List.nodup_append.mp hnd').1
  have hl : ∀ p, ∀ y ∈ ps, (fdAt p f).scope.names.lookup y = some .local := fun p y hy => by
    have := List.all_eq_true.mp (hfl p).2.2.2.2.2 y (List.mem_append_left _ hy)
    rw [Bool.and_eq_true] at this
    exact of_decide_eq_true this.1
  have kL : ∀ L, ∀ y ∈ ps, (callEnvC (fdAt B.w.params f) L f).kindOf y = some .local := fun L y hy => hl B.w.params y hy
  refine enterCQ ok wd f k c ps (ps ++ more) (args.map some ++ more.map fun _ => none) (fun _ => none) cs hK hc hci hbody hbind hfl hcs hck hcn hnd htb hroom (fun p _ x hx => .inl (hl p x hx)) (fun L y => ?_) (fun L => bindC_zip _ _ _ _ (kL L)) h
  rw [bindL_zip _ _ _ _ (kL L) ndp hlen, asg_append _ _ _ _ _ (by simpa using hlen) (fun u hu => by obtain ⟨_, _, rfl⟩ := List.mem_map.mp hu; rfl)]
  split
  · rfl
  · rename_i hy; exact (asg_none_of _ _ _ hy).symm
end
open PySem PySem.W PySem.W.X PyProof.Rows PySem.Calls
set_option Elab.async false
set_option maxRecDepth 100000
set_option maxHeartbeats 4000000
local macro_rules | `(tactic| walk_at "own") => `(tactic| repeat (first | with_reducible exact List.mem_cons_self | with_reducible apply List.mem_cons_of_mem))
local macro_rules | `(tactic| walk_at "ow") => `(tactic| repeat (first | with_reducible exact Ow.here | with_reducible apply Ow.there))
noncomputable def ordStep (run : Int) (o : List Int) (c : Cl) : List Int := if c.r == run && !KTD.inNums c.f o then o ++ [c.f] else o
noncomputable def ordRun (cs : List Cl) (o : List Int) (run : Int) : List Int := cs.foldl (ordStep run) o
noncomputable def orderOf (cs : List Cl) (n : Nat) : List Int := (List.range n).foldl (fun o (r : Nat) => ordRun cs o (r : Int)) []
noncomputable def callersDue (mine : List Cl) (n : Nat) : Callers := (List.range n).foldl (fun acc (g : Nat) => if mine.filter (·.g == (g : Int)) = [] then acc else put acc (nameAt g) (sumsOf (mine.filter (·.g == (g : Int))))) []
structure Due where
  row : Row
  callers : Callers
  n : Int
noncomputable def flip2 (q : Quad) : Quad := (q.2.1, q.1, q.2.2.1, q.2.2.2)
noncomputable def fnAt (i : Int) : Str × Int × Str × Str := (fnTab[i.toNat]?).getD ("", 0, "", "")
noncomputable def dueAt (cs : List Cl) (f : Int) : Due := ⟨rowOf (flip2 (sumsOf (cs.filter (·.f == f)))) (fnAt f), callersDue (cs.filter (·.f == f)) 6, ((cs.filter (·.f == f)).filter (fun c => decide (c.g < 6))).length⟩
inductive RDue (B : Bs) (sh : Bool) (P : PM) (v : Value) (d : Due) : Prop
  | mk (a : _) (b : _) (t : _) (x1 : RT P v [a, b, .int d.n t]) (x2 : RRow P a d.row) (x3 : RC B sh P b d.callers)
theorem RDue.mono {B : Bs} {sh : Bool} {P P' : PM} (l : P.le P') {v : Value} {d : Due} (h : RDue B sh P v d) : RDue B sh P' v d := let ⟨a, b, t, r, x, y⟩ := h; ⟨a, b, t, r.mono l, x.mono l, y.mono l⟩
theorem List.length_take_le' {α : Type} (n : Nat) (l : List α) : (l.take n).length ≤ l.length := by rw [List.length_take]; exact Nat.min_le_right ..
theorem ordStep_len (run : Int) (o : List Int) (c : Cl) : (ordStep run o c).length ≤ o.length + 1 := by unfold ordStep; split <;> simp
theorem ordRun_len (cs : List Cl) (o : List Int) (run : Int) : (ordRun cs o run).length ≤ o.length + cs.length := by
  unfold ordRun
  induction cs generalizing o with
  | nil => simp
  | cons c cs ih =>
    rw [List.foldl_cons, List.length_cons]
    have := ih (ordStep run o c)
    have := ordStep_len run o c
    lia
theorem orderOf_succ (cs : List Cl) (n : Nat) : orderOf cs (n + 1) = ordRun cs (orderOf cs n) n := by
  unfold orderOf; rw [List.range_succ, List.foldl_append]; rfl
theorem orderOf_len (cs : List Cl) (n : Nat) : (orderOf cs n).length ≤ n * cs.length := by
  induction n with
  | zero => simp [orderOf]
  | succ n ih =>
    rw [orderOf_succ]
    have := ordRun_len cs (orderOf cs n) n
    rw [Nat.succ_mul]; lia
theorem ordRun_mem {cs : List Cl} {o : List Int} {run : Int} {S : Int → Prop} (h : ∀ c ∈ cs, S c.f) (h0 : ∀ i ∈ o, S i) : ∀ i ∈ ordRun cs o run, S i := by
  unfold ordRun
  induction cs generalizing o with
  | nil => exact h0
  | cons c cs ih =>
    rw [List.foldl_cons]
    refine ih (fun d hd => h d (.tail _ hd)) fun i hi => ?_
    unfold ordStep at hi
    split at hi
    · rcases List.mem_append.mp hi with hi | hi
      · exact h0 i hi
      · simp at hi; subst hi; exact h c (.head _)
    · exact h0 i hi
theorem orderOf_mem {cs : List Cl} {S : Int → Prop} (h : ∀ c ∈ cs, S c.f) : ∀ n, ∀ i ∈ orderOf cs n, S i
  | 0, i, hi => by simp [orderOf] at hi
  | n + 1, i, hi => by rw [orderOf_succ] at hi; exact ordRun_mem h (orderOf_mem h n) i hi
theorem callersDue_succ (mine : List Cl) (n : Nat) : callersDue mine (n + 1) = if mine.filter (·.g == (n : Int)) = [] then callersDue mine n else put (callersDue mine n) (nameAt n) (sumsOf (mine.filter (·.g == (n : Int)))) := by
  unfold callersDue; rw [List.range_succ, List.foldl_append]; rfl
theorem LR.ints {P : PM} {vs : List Value} {is : List Int} (h : LR (RI P) vs is) : IntsAre vs is := by
  induction h with
  | nil => exact .nil
  | cons a _ ih => obtain ⟨t, rfl⟩ := a; exact .cons _ t ih
section
variable {B : Bs} {P0 P P1 : PM} {s0 s : Shared} {L C : Addr} {m mC : Str → Option Value} {own own' : List Own} {A : Around} {E : Value → Shared → Prop} {e : Env} {ns : List Str} {vs vs' : List (Option Value)}
/-- [call for call in .. if test] -/
theorem filtBody {iter tst : Expr} {scope : Scope} {pe pt pos : Pos} {cl : List (Str × Addr)} {it : Addr} {p : Nat → Obj → Prop} {vx : List Value} {cs : List Cl} {RR : Value → Addr → Result → Shared → Prop} (test : Cl → Bool) (h : St B P0 s0 P L m ((it, p 0) :: own) s)
    (hit : Itr B A P it vx.length (fun k v => vx[k]? = some v) p) (sl : Slf B A P it p) (lr : LR (RCl P) vx cs) (hn : cs.length ≤ 10) (hcell : ∀ x ∈ scope.names, x.2 ≠ .cell) (hk : scope.kind = .function) (fe : FE e L ns) (hl : ((["call"] : List Str).all fun x => decide (scope.names.lookup x = some .local) && !(x == ("__debug__" : Str))) = true)
    (ht : ∀ C D k P' ys x c s', FE (compEnvC scope cl C e) C ["call"] → RCl P' x c → c ∈ cs → P.le P' → St B P0 s0 P' C (asg ["call"] [some x]) ((it, p (k + 1)) :: (D, isLst ys) :: (L, isNs m) :: own) s' →
      wpAny (mdl B) A (isTrue tst (compEnvC scope cl C e) (eval tst (compEnvC scope cl C e))) (fun ok s3 => ok = test c ∧ St B P0 s0 P' C (asg ["call"] [some x]) ((it, p (k + 1)) :: (D, isLst ys) :: (L, isNs m) :: own) s3) no s')
    (fin : ∀ C D P' mC ys s', P.le P' → LR (RCl P') ys (cs.filter test) → St B P0 s0 P' C mC ((L, isNs m) :: (D, isLst ys) :: own) s' → RR (.ref D) C (.ok .next) s') :
    wpAny (mdl B) A (newList []) (fun acc s₃ => wpAny (mdl B) A (newFunctionEnv scope e.globals cl [] e.qual none .none (some e)) (fun cenv s₄ =>
        codeAny (mdl B) A (.compStart (.ListComp (.Name "call" pe) [⟨.Name "call" pt, iter, [tst], 0⟩] scope pos) 0 (.ref it) acc { cenv with scope := relabel scope e }) (RR acc cenv.locals) s₄) E s₃) E s := by
  have len := lr.length
  refine compL_body ["call"] h hit sl (by rw [len, sizeLine_eq]; lia) hcell hk fe hl (by decide) (fun k P' ys => LR (RCl P') ys ((cs.take k).filter test)) .nil ?_ ?_
  · rintro C D k P' vs' ys x s1 fe hk hv l1 hl inv h
    obtain ⟨a, rfl⟩ := len1 hl
    obtain ⟨c, ec, rc⟩ := lr.at hv
    have rc := rc.mono l1
    with_reducible refine stb h fe (by walk_at "up") fun s1 h => ?_
    refine wpAny_tests_one (wpAny_mono (ht C D k P' ys x c s1 fe rc (List.mem_of_getElem? ec) l1 h) (fun ok s1 hh => ?_) fun _ _ x => x)
    obtain ⟨rfl, h⟩ := hh
    unfold TurnL
    have nx := take_succ_filter test cs k c ec
    cases hb : test c with
    | false =>
      rw [hb] at nx
      rw [if_neg Bool.false_ne_true] at nx ⊢
      refine ⟨P', _, l1, rfl, ?_, h⟩
      show LR (RCl P') _ ((cs.take (k + 1)).filter test)
      rw [nx, List.append_nil]; exact inv
    | true =>
      rw [hb] at nx
      rw [if_pos rfl] at nx ⊢
      with_reducible refine ldv h fe (by walk_at "lk") ?_
      refine ⟨P', _, l1, rfl, ?_, h⟩
      show LR (RCl P') _ ((cs.take (k + 1)).filter test)
      rw [nx]; exact inv.snoc rc
  · rintro C D P' mC ys s1 l1 inv hy h
    rw [len, List.take_length] at inv
    exact fin C D P' mC ys s1 l1 inv h
end
section
variable {B : Bs} {P0 P P1 : PM} {s0 s : Shared} {L C : Addr} {m mC : Str → Option Value} {own own' : List Own} {A : Around} {E : Value → Shared → Prop} {e : Env} {ns : List Str} {vs vs' : List (Option Value)}
/-- a list against the empty one -/
theorem neNil {v : Value} {b : Addr} {xs : List Value} {Q : Value → Shared → Prop} (h : St B P0 s0 P L m ((b, isLst []) :: own) s) (r : RL P v xs) (hu : A.units < cLine) (q : Q (.bool (!xs.isEmpty)) s) : wpAny (mdl B) A (compareOp .NotEq v (.ref b)) Q E s := by
  obtain ⟨a, rfl, hl⟩ := h.lst r
  obtain ⟨o, p, i⟩ := h.head
  have hb := isLst_of p i
  cases xs with
  | nil => exact PySem.SeqAt.RcNeAt.lists (e := fun _ => true) hl hb rfl hu (fun j h1 => absurd h1 (by simp)) _ _ _ _ q
  | cons x xs => exact PySem.SeqAt.RcNeAt.lists_lengths hl hb (by simp) hu _ _ _ _ q
end
theorem fnAt_of {i : Int} {f : Str × Int × Str × Str} (e : fnTab[i.toNat]? = some f) : fnAt i = f := by unfold fnAt; rw [e]; rfl
theorem mg147 {B : Bs} (ok : Ok B) : B.mg "_law_sums" = some (.ref 147) := mg_of ok.X ok.g (by kernel_rfl)
theorem spec152 {B : Bs} {P : PM} {s : Shared} {sh : Bool} (ok : Ok B) (wd : Wd B P s) {v : Value} {cs : List Cl} (hl : cs.length ≤ 10) (hc : ∀ c ∈ cs, c.ok ∧ c.sm) (r : RLs RCl P v cs) :
    Spec B (AA 470 1970) (.ref 152) [v, .bool sh] P s (fun P' v => RLs (RDue B sh) P' v ((orderOf cs 3).map (dueAt cs))) := by
  refine enterC ok wd 152 20 151 ["calls", "short"] ["order", "run", "call", "due", "mine", "callers", "theirs", "sums", "row"] (fun n => [("g", n + 1 + 1), ("f", n + 1)]) (fun p => by kernel_rfl) (fun p => by kernel_rfl) (fun p => by kernel_rfl) (fun p => by kernel_rfl) (fun p => by kernel_rfl) (fun p => ⟨⟨by kernel_rfl, by kernel_rfl⟩, by kernel_rfl, by kernel_rfl, by kernel_rfl, by kernel_rfl, by kernel_rfl⟩) (fun p n => by kernel_rfl) (fun p n => by kernel_rfl) (fun n => by kernel_rfl) (by kernel_rfl) (by kernel_rfl) rfl (by decide) ?_
  intro L s1 h fe ce
  dsimp only [List.cons_append, List.nil_append, List.map, celsOf] at h fe
  refine seq ?_
  obtain ⟨vx, rl, lr⟩ := id r
  have len := lr.length
  walk_at "h"
  with_reducible refine wpAny_Assign_Name ?_ (by with_unfolding_all rfl)
  walk_at "h"
  with_reducible refine List_ ?_
  walk_at "h"
  with_reducible refine args_nil ?_
  refine newLst h (fun d s1 h => ?_) (by rw [sizeLine_eq]; simp)
  with_reducible refine stv h fe (by walk_at "up") fun s1 h => ?_
  walk_at "n"
  walk_at "h"
  with_reducible refine seq ?_
  walk_at "h"
  refine wpAny_For ?_
  refine Call_ ?_ (by with_unfolding_all rfl)
  refine ldb ok h fe (mgn_range ok) boot_range (by kernel_rfl) ?_
  with_reducible refine callT ?_ rfl rfl
  walk_at "h"
  with_reducible refine args_cons ?_ (by with_unfolding_all rfl)
  with_reducible refine kint h fun _ s1 h => ?_
  walk_at "h"
  with_reducible refine args_nil ?_
  refine rngNew h fun rg s1 h => ?_
  refine rngIter (n := 3) rfl h (by decide) fun it p s1 hit sl h => ?_
  have h := h
  refine forItr (B := B) hit (fun k P' vs own => ∃ vo a b, own = [(d, isLst vo), (L + 1 + 1, isCel none), (L + 1, isCel none)] ∧ LR (RI P') vo (orderOf cs k) ∧ vs = [some v, some (.bool sh), some (.ref d), a, b, none, none, none, none, none, none]) ⟨_, _, _, rfl, .nil, rfl⟩ h ?_ ?_
  · rintro k P' vs' own' x s1 hk ⟨tk, rfl⟩ l1 ⟨vo, a, b, rfl, lo, rfl⟩ h
    have olen := orderOf_len cs k
    have hk3 : k * cs.length ≤ 20 := by
      have : k * cs.length ≤ 2 * 10 := Nat.mul_le_mul (by lia) hl
      lia
    with_reducible refine stb h fe (by walk_at "up") fun s1 h => ?_
    walk_at "h"
    with_reducible refine seq ?_
    walk_at "h"
    refine wpAny_For ?_
    with_reducible refine ldv h fe (by walk_at "lk") ?_
    refine iterL (B := B) h rfl (rl.mono l1) fun it2 p2 s1 hit2 h => ?_
    have h := h
    refine forItr (B := B) hit2 (fun j P2 vs own => ∃ vo b, own = [(it, p (k + 1)), (d, isLst vo), (L + 1 + 1, isCel none), (L + 1, isCel none)] ∧ LR (RI P2) vo (ordRun (cs.take j) (orderOf cs k) k) ∧ vs = [some v, some (.bool sh), some (.ref d), some (.int k tk), b, none, none, none, none, none, none]) ⟨_, _, rfl, lo, rfl⟩ h ?_ ?_
    · rintro j P2 vs' own' x s1 hj hx l2 ⟨vo, b, rfl, lo, rfl⟩ h
      obtain ⟨c, ec, rc⟩ := lr.at hx
      obtain ⟨t1, t2, t3, t4, t5, t6, rt⟩ := rc.mono (l1.trans l2)
      have nx : ordRun (cs.take (j + 1)) (orderOf cs k) k = ordStep k (ordRun (cs.take j) (orderOf cs k) k) c := by
        unfold ordRun; rw [List.take_add_one, ec, List.foldl_append]; rfl
      have olen2 := ordRun_len (cs.take j) (orderOf cs k) k
      have : (cs.take j).length ≤ 10 := Nat.le_trans (List.length_take_le' ..) hl
      have lol := lo.length
      with_reducible refine stb h fe (by walk_at "up") fun s1 h => ?_
      walk_at "h"
      with_reducible refine seq ?_
      walk_at "h"
      with_reducible refine wpAny_If ?_
      refine isTrue_and ?_
      with_reducible refine wpAny_isTrue_Compare1 ?_ (by with_unfolding_all rfl)
      walk_at "h"
      with_reducible refine Subscript_ ?_
      with_reducible refine ldv h fe (by walk_at "lk") ?_
      with_reducible refine kint h fun _ s1 h => ?_
      refine atT h rt (by decide) (by decide) rfl ?_ (by intros; with_unfolding_all rfl)
      with_reducible refine ldv h fe (by walk_at "lk") ?_
      refine eq_int ?_
      with_reducible refine wpAny_truthy_bool ?_
      have stay : ∀ (P3 : PM) (s1 : Shared), (c.r == (k : Int) && !KTD.inNums c.f (ordRun (cs.take j) (orderOf cs k) k)) = false → P2.le P3 → St B P s P3 L (asg ["calls", "short", "order", "run", "call", "due", "mine", "callers", "theirs", "sums", "row"] [some v, some (.bool sh), some (.ref d), some (.int k tk), some x, none, none, none, none, none, none]) [(it2, p2 (j + 1)), (it, p (k + 1)), (d, isLst vo), (L + 1 + 1, isCel none), (L + 1, isCel none)] s1 →
          Bt B P s P' L ["calls", "short", "order", "run", "call", "due", "mine", "callers", "theirs", "sums", "row"] it2 p2 (fun j P2 vs own => ∃ vo b, own = [(it, p (k + 1)), (d, isLst vo), (L + 1 + 1, isCel none), (L + 1, isCel none)] ∧ LR (RI P2) vo (ordRun (cs.take j) (orderOf cs k) k) ∧ vs = [some v, some (.bool sh), some (.ref d), some (.int k tk), b, none, none, none, none, none, none]) (j + 1) s1 := by
        intro P3 s1 hb l3 h
        refine ⟨P3, _, _, l2.trans l3, ⟨_, _, rfl, ?_, rfl⟩, h⟩
        rw [nx]; unfold ordStep; rw [hb, if_neg Bool.false_ne_true]
        exact lo
      cases hr : c.r == (k : Int) with
      | false =>
        first | walk_at "n" | rw [if_neg Bool.false_ne_true, if_neg Bool.false_ne_true]
        exact seq0 (Nx.next (seq0 (Lp.next (stay _ _ (by rw [hr]; rfl) (PM.le.refl _) h))))
      | true =>
        first | walk_at "n" | rw [if_pos rfl]
        refine isTrue_and ?_
        with_reducible refine wpAny_isTrue_Compare1 ?_ (by with_unfolding_all rfl)
        walk_at "h"
        with_reducible refine Subscript_ ?_
        with_reducible refine ldv h fe (by walk_at "lk") ?_
        with_reducible refine kint h fun _ s1 h => ?_
        refine atT h rt (by decide) (by decide) rfl ?_ (by intros; with_unfolding_all rfl)
        with_reducible refine ldv h fe (by walk_at "lk") ?_
        obtain ⟨o, po, io⟩ := h.rot3.head
        refine KTD.notin_nums (h₀ := s1.heap) ⟨_, isLst_of po io, lo.ints⟩ (fun _ _ e => e) ?_
        with_reducible refine wpAny_truthy_bool ?_
        cases hn : KTD.inNums c.f (ordRun (cs.take j) (orderOf cs k) k) with
        | true =>
          rw [Bool.not_true, if_neg Bool.false_ne_true, if_neg Bool.false_ne_true]
          exact seq0 (Nx.next (seq0 (Lp.next (stay _ _ (by rw [hr, hn]; rfl) (PM.le.refl _) h))))
        | false =>
          rw [Bool.not_false, if_pos rfl]
          refine isTrue_and_nil ?_
          first | walk_at "n" | rw [if_pos rfl]
          have h := h.rot3
          refine seq ?_
          refine exprS ?_ (by with_unfolding_all rfl) (by with_unfolding_all rfl)
          obtain ⟨oA, pA, iA⟩ := h.head
          refine appL h fe (by walk_at "lk") pA iA (by with_unfolding_all rfl) (by with_unfolding_all rfl) (by with_unfolding_all rfl) ?_
          walk_at "h"
          with_reducible refine Subscript_ ?_
          with_reducible refine ldv h fe (by walk_at "lk") ?_
          with_reducible refine kint h fun _ s1 h => ?_
          refine atT h rt (by decide) (by decide) rfl ?_ (by intros; with_unfolding_all rfl)
          refine appD (B := B) h (by rw [lol, sizeLine_eq]; lia) fun s1 h => ?_
          refine ⟨rfl, ?_⟩
          refine Nx.next (seq0 (Nx.next (seq0 (Lp.next ⟨P2, _, _, l2, ⟨_, _, rfl, ?_, rfl⟩, h.back3⟩))))
          rw [nx]; unfold ordStep; rw [hr, hn, Bool.not_false, Bool.and_self, if_pos rfl]
          exact lo.snoc ⟨_, rfl⟩
    · rintro P2 vs' own' s1 l2 ⟨vo, b, rfl, lo, rfl⟩ h
      refine Nx.next (seq0 (Lp.next ⟨P2, _, _, l1.trans l2, ⟨_, _, _, rfl, ?_, rfl⟩, h⟩))
      rw [len, List.take_length] at lo
      rw [orderOf_succ]; exact lo
  · rintro P1 vs' own' s1 l1 ⟨vo, a, b, rfl, lo, rfl⟩ h
    obtain ⟨P2, o2, l2, e2, i2, h⟩ := h.freeze
    have ro : RL P2 (.ref d) vo := ⟨_, _, rfl, e2, i2⟩
    have lo : LR (RI P2) vo (orderOf cs 3) := lo
    have olen := orderOf_len cs 3
    have olen : (orderOf cs 3).length ≤ 30 := by lia
    have omem := orderOf_mem (S := fun i => 0 ≤ i ∧ i < 6) (fun c hm => ⟨(hc c hm).1.1, (hc c hm).1.2.1⟩) 3
    have l02 := l1.trans l2
    walk_at "n"
    with_reducible refine seq ?_
    walk_at "h"
    with_reducible refine wpAny_Assign_Name ?_ (by with_unfolding_all rfl)
    walk_at "h"
    with_reducible refine List_ ?_
    walk_at "h"
    with_reducible refine args_nil ?_
    refine newLst h (fun dd s1 h => ?_) (by rw [sizeLine_eq]; simp)
    with_reducible refine stv h fe (by walk_at "up") fun s1 h => ?_
    walk_at "n"
    with_reducible refine seq ?_
    walk_at "h"
    refine wpAny_For ?_
    with_reducible refine ldv h fe (by walk_at "lk") ?_
    refine iterL (B := B) h rfl ro fun it3 p3 s1 hit3 h => ?_
    have h := h
    refine forItr (B := B) hit3 (fun j P3 vs own => ∃ vd cf cg m0 c0 th0 su0 ro0, own = [(dd, isLst vd), (L + 1 + 1, isCel cg), (L + 1, isCel cf)] ∧ LR (RDue B sh P3) vd (((orderOf cs 3).take j).map (dueAt cs)) ∧ vs = [some v, some (.bool sh), some (.ref d), a, b, some (.ref dd), m0, c0, th0, su0, ro0]) ⟨_, _, _, _, _, _, _, _, rfl, .nil, rfl⟩ h ?_ ?_
    · rintro j P3 vs' own' x s1 hj hx l3 ⟨vd, cf, cg, m0, c0, th0, su0, ro0, rfl, ld, rfl⟩ h
      obtain ⟨f, ef, tf, rfl⟩ := lo.at hx
      have hf := omem f (List.mem_of_getElem? ef)
      refine stcb h fe ce (by kernel_rfl) (by walk_at "own") (by walk_at "ow") fun s1 h => ?_
      walk_at "h"
      with_reducible refine seq ?_
      walk_at "h"
      refine compLS (cl := [("f", L + 1)]) (by with_unfolding_all rfl) (by with_unfolding_all rfl) rfl (by decide) (by intro _; with_unfolding_all rfl) ?_
      with_reducible refine ldv h fe (by walk_at "lk") ?_
      refine iterL2 h rfl (rl.mono (l02.trans l3)) fun it4 p4 s1 hit4 sl4 h => ?_
      refine filtBody (fun c => c.f == f) h hit4 sl4 (lr.mono fun _ _ y => RCl.mono (l02.trans l3) y) hl (by decide) rfl fe (by decide) ?_ ?_
      · rintro C D k P' ys x c s1 fe ⟨t1, t2, t3, t4, t5, t6, rc⟩ hm l4 h
        with_reducible refine wpAny_isTrue_Compare1 ?_ (by with_unfolding_all rfl)
        walk_at "h"
        with_reducible refine Subscript_ ?_
        with_reducible refine ldv h fe (by walk_at "lk") ?_
        with_reducible refine kint h fun _ s1 h => ?_
        refine atT h rc (by decide) (by decide) rfl ?_ (by intros; with_unfolding_all rfl)
        refine ldc (cs := [("f", L + 1)]) (c := L + 1) (v := .int f tf) h fe ⟨fun y c hy => ?_⟩ (by walk_at "own") (by walk_at "own") ?_
        · simp at hy
          obtain ⟨rfl, rfl⟩ := hy
          exact ⟨.inl (by kernel_rfl), by kernel_rfl, by decide⟩
        refine eq_int ?_
        with_reducible refine wpAny_truthy_bool ?_
        exact ⟨rfl, h⟩
      · rintro C D P4 mC ys s1 l4 lm h
        refine compEndS h fe (by walk_at "up") fun s1 h => ?_
        obtain ⟨P5, o5, l5, e5, i5, h⟩ := h.freeze
        have rm : RLs RCl P5 (.ref D) (cs.filter fun c => c.f == f) := ⟨_, ⟨_, _, rfl, e5, i5⟩, lm.mono fun _ _ y => RCl.mono l5 y⟩
        obtain ⟨mine, emine⟩ : ∃ mine, mine = cs.filter fun c => c.f == f := ⟨_, rfl⟩
        rw [← emine] at rm
        have ml : mine.length ≤ 10 := by rw [emine]; exact Nat.le_trans (List.length_filter_le _ _) hl
        have mc : ∀ c ∈ mine, c.ok ∧ c.sm := fun c hm => hc c (by rw [emine] at hm; exact (List.mem_filter.mp hm).1)
        obtain ⟨vm, rml, lrm⟩ := id rm
        walk_at "n"
        with_reducible refine seq ?_
        walk_at "h"
        with_reducible refine wpAny_Assign_Name ?_ (by with_unfolding_all rfl)
        walk_at "h"
        refine newD h fun dc s1 h => ?_
        with_reducible refine stv h fe (by walk_at "up") fun s1 h => ?_
        walk_at "n"
        with_reducible refine seq ?_
        walk_at "h"
        refine wpAny_For ?_
        refine Call_ ?_ (by with_unfolding_all rfl)
        refine ldb ok h fe (mgn_range ok) boot_range (by kernel_rfl) ?_
        with_reducible refine callT ?_ rfl rfl
        walk_at "h"
        with_reducible refine args_cons ?_ (by with_unfolding_all rfl)
        with_reducible refine kint h fun _ s1 h => ?_
        walk_at "h"
        with_reducible refine args_nil ?_
        refine rngNew h fun rg s1 h => ?_
        refine rngIter (n := 6) rfl h (by decide) fun it5 p5 s1 hit5 sl5 h => ?_
        have h := h
        refine forItr (B := B) hit5 (fun g P6 vs own => ∃ kc cg th0, own = [(dc, isDct B kc), (it3, p3 (j + 1)), (dd, isLst vd), (L + 1 + 1, isCel cg), (L + 1, isCel (some (.int f tf)))] ∧ (DR (RPart sh P6) kc (callersDue mine g) ∧ ∀ c ∈ callersDue mine g, c.1 ∈ names6) ∧
          vs = [some v, some (.bool sh), some (.ref d), a, b, some (.ref dd), some (.ref D), some (.ref dc), th0, su0, ro0]) ⟨_, _, _, rfl, ⟨.nil, fun _ hc => nomatch hc⟩, rfl⟩ h ?_ ?_
        · rintro g P6 vs' own' x s1 hg ⟨tg, rfl⟩ l6 ⟨kc, cg, th0, rfl, ⟨dc6, mc6⟩, rfl⟩ h
          have nxt := callersDue_succ mine g
          refine stcb h fe ce (by kernel_rfl) (by walk_at "own") (by walk_at "ow") fun s1 h => ?_
          walk_at "h"
          with_reducible refine seq ?_
          walk_at "h"
          refine compLS (cl := [("g", L + 1 + 1)]) (by with_unfolding_all rfl) (by with_unfolding_all rfl) rfl (by decide) (by intro _; with_unfolding_all rfl) ?_
          with_reducible refine ldv h fe (by walk_at "lk") ?_
          refine iterL2 h rfl (rml.mono l6) fun it7 p7 s1 hit7 sl7 h => ?_
          refine filtBody (fun c => c.g == (g : Int)) h hit7 sl7 (lrm.mono fun _ _ y => RCl.mono l6 y) ml (by decide) rfl fe (by decide) ?_ ?_
          · rintro C D k P' ys x c s1 fe ⟨t1, t2, t3, t4, t5, t6, rc⟩ hm l4 h
            with_reducible refine wpAny_isTrue_Compare1 ?_ (by with_unfolding_all rfl)
            walk_at "h"
            with_reducible refine Subscript_ ?_
            with_reducible refine ldv h fe (by walk_at "lk") ?_
            with_reducible refine kint h fun _ s1 h => ?_
            refine atT h rc (by decide) (by decide) rfl ?_ (by intros; with_unfolding_all rfl)
            refine ldc (cs := [("g", L + 1 + 1)]) (c := L + 1 + 1) (v := .int g tg) h fe ⟨fun y c hy => ?_⟩ (by walk_at "own") (by walk_at "own") ?_
            · simp at hy
              obtain ⟨rfl, rfl⟩ := hy
              exact ⟨.inl (by kernel_rfl), by kernel_rfl, by decide⟩
            refine eq_int ?_
            with_reducible refine wpAny_truthy_bool ?_
            exact ⟨rfl, h⟩
          · rintro C D7 P7 mC ys s1 l7 lt h
            refine compEndS h fe (by walk_at "up") fun s1 h => ?_
            obtain ⟨P8, o8, l8, e8, i8, h⟩ := h.freeze
            have rt : RLs RCl P8 (.ref D7) (mine.filter fun c => c.g == (g : Int)) := ⟨_, ⟨_, _, rfl, e8, i8⟩, lt.mono fun _ _ y => RCl.mono l8 y⟩
            obtain ⟨theirs, eth⟩ : ∃ th, th = mine.filter fun c => c.g == (g : Int) := ⟨_, rfl⟩
            rw [← eth] at rt nxt
            have tl : theirs.length ≤ 10 := by rw [eth]; exact Nat.le_trans (List.length_filter_le _ _) ml
            have tc : ∀ c ∈ theirs, c.ok ∧ c.sm := fun c hm => mc c (by rw [eth] at hm; exact (List.mem_filter.mp hm).1)
            obtain ⟨vt, rtl, lrt⟩ := id rt
            walk_at "n"
            with_reducible refine seq ?_
            walk_at "h"
            with_reducible refine wpAny_If ?_
            with_reducible refine wpAny_isTrue_Compare1 ?_ (by with_unfolding_all rfl)
            with_reducible refine ldv h fe (by walk_at "lk") ?_
            walk_at "h"
            with_reducible refine List_ ?_
            walk_at "h"
            with_reducible refine args_nil ?_
            refine newLst h (fun ee s1 h => ?_) (by rw [sizeLine_eq]; simp)
            refine neNil h rtl (by decide) ?_
            have h := h.drop
            with_reducible refine wpAny_truthy_bool ?_
            have l68 := l6.trans (l7.trans l8)
            have dc8 := dc6.mono fun _ _ y => RPart.mono (l7.trans l8) y
            cases hv : vt with
            | nil =>
              subst hv
              have e0 : theirs = [] := List.eq_nil_of_length_eq_zero (by rw [← lrt.length]; rfl)
              rw [e0, if_pos rfl] at nxt
              rw [show (!([] : List Value).isEmpty) = false from rfl, if_neg Bool.false_ne_true]
              refine seq0 (Nx.next (seq0 (Lp.next ⟨P8, _, _, l68, ⟨_, _, _, rfl, ⟨?_, ?_⟩, rfl⟩, h⟩)))
              · rw [nxt]; exact dc8
              · rw [nxt]; exact mc6
            | cons y0 vt' =>
              have ne0 : theirs ≠ [] := fun e => by have := lrt.length; rw [e, hv] at this; simp at this
              rw [if_neg ne0] at nxt
              rw [show (!(y0 :: vt').isEmpty) = true from rfl, if_pos rfl]
              rw [hv] at rtl lrt
              obtain ⟨fn, efn, mfn, nfn⟩ := fnTab_at (i := (g : Int)) (by lia) (by lia)
              have klen : kc.length ≤ sizeLine := by
                obtain ⟨o, po, io⟩ := h.swap.head
                have := six_le (dc6.keys ▸ io.nodup) (fun z hz => by obtain ⟨c', h1, rfl⟩ := List.mem_map.mp hz; exact mc6 _ h1)
                rw [List.length_map, ← dc6.length] at this; rw [sizeLine_eq]; lia
              have store : ∀ (P9 : PM) (vv : Value) (s1 : Shared), P8.le P9 → RPart sh P9 vv (sumsOf theirs) → St B P s P9 L (asg ["calls", "short", "order", "run", "call", "due", "mine", "callers", "theirs", "sums", "row"] [some v, some (.bool sh), some (.ref d), a, b, some (.ref dd), some (.ref D), some (.ref dc), some (.ref D7), su0, ro0]) [(it5, p5 (g + 1)), (dc, isDct B kc), (it3, p3 (j + 1)), (dd, isLst vd), (L + 1 + 1, isCel (some (.int g tg))), (L + 1, isCel (some (.int f tf)))] s1 → True := fun _ _ _ _ _ _ => trivial
              with_reducible refine seq ?_
              walk_at "h"
              with_reducible refine wpAny_Assign_Subscript ?_ (by with_unfolding_all rfl)
              walk_at "h"
              with_reducible refine IfExp_ ?_
              refine wpAny_isTrue_value ?_
              with_reducible refine ldv h fe (by walk_at "lk") ?_
              with_reducible refine wpAny_truthy_bool ?_
              cases sh with
              | true =>
                first | walk_at "n" | rw [if_pos rfl]
                refine Call_ ?_ (by with_unfolding_all rfl)
                refine ldb ok h fe (mgn_len ok) boot_len (by kernel_rfl) ?_
                with_reducible refine callB ?_ rfl rfl
                walk_at "h"
                with_reducible refine args_cons ?_ (by with_unfolding_all rfl)
                with_reducible refine ldv h fe (by walk_at "lk") ?_
                walk_at "h"
                with_reducible refine args_nil ?_
                refine lenL h rtl (by rw [lrt.length, sizeLine_eq]; lia) fun t9 s1 h => ?_
                with_reducible refine ldv h fe (by walk_at "lk") ?_
                walk_at "h"
                with_reducible refine Subscript_ ?_
                walk_at "h"
                with_reducible refine Subscript_ ?_
                walk_at "h"
                refine Call_ ?_ (by with_unfolding_all rfl)
                refine ldg ok h fe (mg93 ok) (by kernel_rfl) ?_
                refine callD0 (h.fn ok (by kernel_rfl)) ?_
                refine callS h ((spec93 ok h.wd).room (by decide) (by decide)) fun PF vF s1 lF rF h => ?_
                obtain ⟨vsF, rF, lrF⟩ := rF.rls
                refine ldc (cs := [("g", L + 1 + 1), ("f", L + 1)]) (c := L + 1 + 1) (v := .int g tg) h fe ce (by walk_at "own") (by walk_at "own") ?_
                obtain ⟨x9, ex9, q1, q2, q3, q4, rx⟩ := lrF.at' efn
                refine atL h rF (by lia) (by lia) ex9 ?_ (by intros; with_unfolding_all rfl)
                with_reducible refine kint h fun _ s1 h => ?_
                refine atT h rx (by decide) (by decide) rfl ?_ (by intros; with_unfolding_all rfl)
                refine setD (B := B) h.swap klen fun s1 h => ?_
                refine Nx.next (seq0 (Nx.next (seq0 (Lp.next ⟨PF, _, _, l68.trans lF, ⟨_, _, _, rfl, ⟨?_, ?_⟩, rfl⟩, h.swap⟩))))
                · rw [nxt, nfn]
                  exact (dc8.mono fun _ _ y => RPart.mono lF y).put ⟨t9, by rw [lrt.length]; rfl⟩
                · rw [nxt, nfn]; exact put_keys _ _ _ (· ∈ names6) mc6 (names6_of mfn)
              | false =>
                first | walk_at "n" | rw [if_neg Bool.false_ne_true]
                refine callG ok h fe (mg147 ok) (by kernel_rfl) (by decide) (by with_unfolding_all rfl) (by with_unfolding_all rfl) (by with_unfolding_all rfl) ?_
                walk_at "h"
                with_reducible refine args_cons ?_ (by with_unfolding_all rfl)
                with_reducible refine ldv h fe (by walk_at "lk") ?_
                walk_at "h"
                with_reducible refine args_nil ?_
                refine ⟨h.fn ok (by kernel_rfl), ?_⟩
                refine callS h ((spec147 ok h.wd tl (fun c hm => (tc c hm).2) rt).room (by decide) (by decide)) fun P9 v9 s1 l9 hv9 h => ?_
                with_reducible refine ldv h fe (by walk_at "lk") ?_
                walk_at "h"
                with_reducible refine Subscript_ ?_
                walk_at "h"
                with_reducible refine Subscript_ ?_
                walk_at "h"
                refine Call_ ?_ (by with_unfolding_all rfl)
                refine ldg ok h fe (mg93 ok) (by kernel_rfl) ?_
                refine callD0 (h.fn ok (by kernel_rfl)) ?_
                refine callS h ((spec93 ok h.wd).room (by decide) (by decide)) fun PF vF s1 lF rF h => ?_
                obtain ⟨vsF, rF, lrF⟩ := rF.rls
                refine ldc (cs := [("g", L + 1 + 1), ("f", L + 1)]) (c := L + 1 + 1) (v := .int g tg) h fe ce (by walk_at "own") (by walk_at "own") ?_
                obtain ⟨x9, ex9, q1, q2, q3, q4, rx⟩ := lrF.at' efn
                refine atL h rF (by lia) (by lia) ex9 ?_ (by intros; with_unfolding_all rfl)
                with_reducible refine kint h fun _ s1 h => ?_
                refine atT h rx (by decide) (by decide) rfl ?_ (by intros; with_unfolding_all rfl)
                refine setD (B := B) h.swap klen fun s1 h => ?_
                refine Nx.next (seq0 (Nx.next (seq0 (Lp.next ⟨PF, _, _, l68.trans (l9.trans lF), ⟨_, _, _, rfl, ⟨?_, ?_⟩, rfl⟩, h.swap⟩))))
                · rw [nxt, nfn]
                  refine (dc8.mono fun _ _ y => RPart.mono (l9.trans lF) y).put ?_
                  obtain ⟨t1, t2, t3, t4, r9⟩ := hv9
                  exact ⟨t1, t2, t3, t4, r9.mono lF⟩
                · rw [nxt, nfn]; exact put_keys _ _ _ (· ∈ names6) mc6 (names6_of mfn)
        · rintro P6 vs' own' s1 l6 ⟨kc, cg, th0, rfl, ⟨dc6, mc6⟩, rfl⟩ h
          have n6 := h.ne1 ok (.head _)
          obtain ⟨P7, o7, l7, e7, i7, h⟩ := h.freeze
          walk_at "n"
          with_reducible refine seq ?_
          walk_at "h"
          with_reducible refine wpAny_Assign_Name ?_ (by with_unfolding_all rfl)
          walk_at "h"
          refine callG ok h fe (mg147 ok) (by kernel_rfl) (by decide) (by with_unfolding_all rfl) (by with_unfolding_all rfl) (by with_unfolding_all rfl) ?_
          walk_at "h"
          with_reducible refine args_cons ?_ (by with_unfolding_all rfl)
          with_reducible refine ldv h fe (by walk_at "lk") ?_
          walk_at "h"
          with_reducible refine args_nil ?_
          refine ⟨h.fn ok (by kernel_rfl), ?_⟩
          have l57 := l6.trans l7
          refine callS h ((spec147 ok h.wd ml (fun c hm => (mc c hm).2) (RCls.mono l57 rm)).room (by decide) (by decide)) fun P8 v8 s1 l8 hv8 h => ?_
          obtain ⟨t1, t2, t3, t4, r8⟩ := hv8
          with_reducible refine stv h fe (by walk_at "up") fun s1 h => ?_
          walk_at "n"
          with_reducible refine seq ?_
          walk_at "h"
          with_reducible refine wpAny_Assign_Name ?_ (by with_unfolding_all rfl)
          walk_at "h"
          with_reducible refine wpAny_BinOp ?_
          walk_at "h"
          with_reducible refine Tuple_ ?_
          walk_at "h"
          with_reducible refine args_cons ?_ (by with_unfolding_all rfl)
          walk_at "h"
          with_reducible refine Subscript_ ?_
          with_reducible refine ldv h fe (by walk_at "lk") ?_
          with_reducible refine kint h fun _ s1 h => ?_
          refine atT h r8 (by decide) (by decide) rfl ?_ (by intros; with_unfolding_all rfl)
          walk_at "h"
          with_reducible refine args_cons ?_ (by with_unfolding_all rfl)
          walk_at "h"
          with_reducible refine Subscript_ ?_
          with_reducible refine ldv h fe (by walk_at "lk") ?_
          with_reducible refine kint h fun _ s1 h => ?_
          refine atT h r8 (by decide) (by decide) rfl ?_ (by intros; with_unfolding_all rfl)
          walk_at "h"
          with_reducible refine args_cons ?_ (by with_unfolding_all rfl)
          walk_at "h"
          with_reducible refine Subscript_ ?_
          with_reducible refine ldv h fe (by walk_at "lk") ?_
          with_reducible refine kint h fun _ s1 h => ?_
          refine atT h r8 (by decide) (by decide) rfl ?_ (by intros; with_unfolding_all rfl)
          walk_at "h"
          with_reducible refine args_cons ?_ (by with_unfolding_all rfl)
          walk_at "h"
          with_reducible refine Subscript_ ?_
          with_reducible refine ldv h fe (by walk_at "lk") ?_
          with_reducible refine kint h fun _ s1 h => ?_
          refine atT h r8 (by decide) (by decide) rfl ?_ (by intros; with_unfolding_all rfl)
          walk_at "h"
          with_reducible refine args_nil ?_
          refine newTup h fun tt s1 h => ?_
          obtain ⟨P9, o9, l9, e9, i9, h⟩ := h.freeze
          walk_at "h"
          with_reducible refine Subscript_ ?_
          walk_at "h"
          refine Call_ ?_ (by with_unfolding_all rfl)
          refine ldg ok h fe (mg93 ok) (by kernel_rfl) ?_
          refine callD0 (h.fn ok (by kernel_rfl)) ?_
          refine callS h ((spec93 ok h.wd).room (by decide) (by decide)) fun PF vF s1 lF rF h => ?_
          obtain ⟨vsF, rF, lrF⟩ := rF.rls
          refine ldc (cs := [("g", L + 1 + 1), ("f", L + 1)]) (c := L + 1) (v := .int f tf) h fe ce (by walk_at "own") (by walk_at "own") ?_
          obtain ⟨fn, efn, mfn, nfn⟩ := fnTab_at hf.1 hf.2
          obtain ⟨x9, ex9, q1, q2, q3, q4, rx⟩ := lrF.at' efn
          refine atL h rF hf.1 (by lia) ex9 ?_ (by intros; with_unfolding_all rfl)
          refine addT h ⟨_, _, rfl, lF _ _ e9, i9⟩ rx (by simp) (by simp) (by simp [sizeLine_eq]) fun P10 v10 s1 l10 r10 h => ?_
          with_reducible refine stv h fe (by walk_at "up") fun s1 h => ?_
          walk_at "n"
          with_reducible refine seq ?_
          walk_at "h"
          have h := h.swap
          refine exprS ?_ (by with_unfolding_all rfl) (by with_unfolding_all rfl)
          obtain ⟨oA, pA, iA⟩ := h.head
          refine appL h fe (by walk_at "lk") pA iA (by with_unfolding_all rfl) (by with_unfolding_all rfl) (by with_unfolding_all rfl) ?_
          walk_at "h"
          with_reducible refine Tuple_ ?_
          walk_at "h"
          with_reducible refine args_cons ?_ (by with_unfolding_all rfl)
          with_reducible refine ldv h fe (by walk_at "lk") ?_
          walk_at "h"
          with_reducible refine args_cons ?_ (by with_unfolding_all rfl)
          with_reducible refine ldv h fe (by walk_at "lk") ?_
          walk_at "h"
          with_reducible refine args_cons ?_ (by with_unfolding_all rfl)
          walk_at "h"
          refine Call_ ?_ (by with_unfolding_all rfl)
          refine ldb ok h fe (mgn_len ok) boot_len (by kernel_rfl) ?_
          with_reducible refine callB ?_ rfl rfl
          refine args_cons ?_
          refine compL (cl := []) (by with_unfolding_all rfl) rfl (by decide) (by intro _; with_unfolding_all rfl) ?_
          with_reducible refine ldv h fe (by walk_at "lk") ?_
          have l510 := l57.trans (l8.trans (l9.trans (lF.trans l10)))
          refine iterL2 h rfl (rml.mono l510) fun it7 p7 s1 hit7 sl7 h => ?_
          refine filtBody (fun c => decide (c.g < 6)) h hit7 sl7 (lrm.mono fun _ _ y => RCl.mono l510 y) ml (by decide) rfl fe (by decide) ?_ ?_
          · rintro C D k P' ys x c s1 fe ⟨t1, t2, t3, t4, t5, t6, rc⟩ hm l4 h
            with_reducible refine wpAny_isTrue_Compare1 ?_ (by with_unfolding_all rfl)
            walk_at "h"
            with_reducible refine Subscript_ ?_
            with_reducible refine ldv h fe (by walk_at "lk") ?_
            with_reducible refine kint h fun _ s1 h => ?_
            refine atT h rc (by decide) (by decide) rfl ?_ (by intros; with_unfolding_all rfl)
            with_reducible refine kint h fun _ s1 h => ?_
            refine lt_int ?_
            with_reducible refine wpAny_truthy_bool ?_
            exact ⟨rfl, h⟩
          · rintro C D11 P11 mC ys s1 l11 lt h
            refine compEnd h fun s1 h => ?_
            obtain ⟨P12, o12, l12, e12, i12, h⟩ := h.freeze
            walk_at "h"
            with_reducible refine args_nil ?_
            have ylen : ys.length = (mine.filter fun c => decide (c.g < 6)).length := lt.length
            refine lenL h ⟨_, _, rfl, e12, i12⟩ (by rw [ylen, sizeLine_eq]; exact Nat.le_trans (List.length_filter_le _ _) (by lia)) fun t13 s1 h => ?_
            walk_at "h"
            with_reducible refine args_nil ?_
            refine newTup h fun tt2 s1 h => ?_
            obtain ⟨P14, o14, l14, e14, i14, h⟩ := h.freeze
            have ldl := ld.length
            refine appD (B := B) h (by rw [ldl, List.length_map, sizeLine_eq]; exact Nat.le_trans (List.length_take_le' ..) (by lia)) fun s1 h => ?_
            refine ⟨rfl, ?_⟩
            have l714 := l8.trans (l9.trans (lF.trans (l10.trans (l11.trans (l12.trans l14)))))
            have l314 := (l4.trans l5).trans (l57.trans l714)
            refine Nx.next (seq0 (Lp.next ⟨P14, _, _, l3.trans l314, ⟨_, _, _, _, _, _, _, _, rfl, ?_, rfl⟩, h.swap⟩))
            rw [take_map_succ _ ef]
            have en : (dueAt cs f).n = ((mine.filter fun c => decide (c.g < 6)).length : Int) := by unfold dueAt; rw [← emine]
            rw [ylen, ← en] at i14
            refine (ld.mono fun _ _ y => RDue.mono l314 y).snoc ⟨_, _, _, ⟨_, _, rfl, e14, i14⟩, ?_, kc, ⟨_, _, rfl, n6, l714 _ _ e7, i7⟩, ?_, ?_⟩
            · have : (dueAt cs f).row = rowOf (flip2 (sumsOf mine)) fn := by unfold dueAt; rw [← emine, fnAt_of efn]
              rw [this]
              exact ⟨_, _, _, _, _, _, _, _, r10.mono (l11.trans (l12.trans l14))⟩
            · have : (dueAt cs f).callers = callersDue mine 6 := by unfold dueAt; rw [← emine]
              rw [this]
              exact dc6.mono fun _ _ y => RPart.mono (l7.trans l714) y
            · have : (dueAt cs f).callers = callersDue mine 6 := by unfold dueAt; rw [← emine]
              rw [this]; exact mc6
    · rintro P3 vs' own' s1 l3 ⟨vd, cf, cg, m0, c0, th0, su0, ro0, rfl, ld, rfl⟩ h
      walk_at "n"
      with_reducible refine seq ?_
      walk_at "h"
      with_reducible refine wpAny_Return_some ?_
      with_reducible refine ldv h fe (by walk_at "lk") ?_
      with_reducible refine Nx.ret ?_
      obtain ⟨P4, o4, l4, e4, i4, h⟩ := h.freeze
      refine h.out ⟨_, ⟨_, _, rfl, e4, i4⟩, ?_⟩
      rw [lo.length, List.take_length] at ld
      exact ld.mono fun _ _ y => RDue.mono l4 y
open PySem PySem.W PySem.W.X PyProof.Rows PySem.Calls
set_option Elab.async false
set_option maxRecDepth 100000
set_option maxHeartbeats 4000000
/-! the sort of the model, as a tree of questions, finds the stable order -/
noncomputable def askOk {α : Type} (c : Nat → Nat → Bool) (n : Nat) : KasT α → (α → Prop) → Prop
  | .ret a, Q => Q a
  | .ask i j k, Q => i < n ∧ j < n ∧ askOk c n (k (c i j)) Q
theorem askOk.mono {α : Type} {c : Nat → Nat → Bool} {n : Nat} {Q Q' : α → Prop} (hq : ∀ a, Q a → Q' a) : ∀ (t : KasT α), askOk c n t Q → askOk c n t Q'
  | .ret a, h => hq a h
  | .ask i j k, h => ⟨h.1, h.2.1, askOk.mono hq (k (c i j)) h.2.2⟩
theorem askOk.bind {α β : Type} {c : Nat → Nat → Bool} {n : Nat} {f : α → KasT β} {Q : β → Prop} : ∀ (t : KasT α), askOk c n t (fun a => askOk c n (f a) Q) → askOk c n (t.bind f) Q
  | .ret _, h => h
  | .ask i j k, h => ⟨h.1, h.2.1, askOk.bind (k (c i j)) h.2.2⟩
theorem askOk.wp {α : Type} {c : Nat → Nat → Bool} {n : Nat} {Q : α → Prop} {cmp : Nat → Nat → (Bool → Shared → Prop) → Shared → Prop} {I : Shared → Prop} {G : α → Shared → Prop}
    (hc : ∀ i j (C : Bool → Shared → Prop) s, i < n → j < n → I s → (∀ s', I s' → C (c i j) s') → cmp i j C s) (hG : ∀ a s, Q a → I s → G a s) : ∀ (t : KasT α) (s : Shared), askOk c n t Q → I s → t.kasWp cmp G s
  | .ret a, s, h, hI => hG a s h hI
  | .ask i j k, s, h, hI => hc i j _ s h.1 h.2.1 hI fun s' hI' => askOk.wp hc hG (k (c i j)) s' h.2.2 hI'
/-- a strict weak order -/
structure Swo {α : Type} (c : α → α → Bool) : Prop where
  asym : ∀ a b, c a b = true → c b a = false
  neg : ∀ a b z, c a b = true → c a z = true ∨ c z b = true
theorem Swo.trans {α : Type} {c : α → α → Bool} (w : Swo c) {a b z : α} (h1 : c a b = true) (h2 : c b z = true) : c a z = true := by
  rcases w.neg a b z h1 with h | h
  · exact h
  · rw [w.asym _ _ h2] at h; cases h
/-- ahead of: less, or alike and earlier -/
noncomputable def Pr {α : Type} (c : α → α → Bool) (R : α → α → Prop) (a b : α) : Prop := c a b = true ∨ (c b a = false ∧ R a b)
theorem Pr.trans {α : Type} {c : α → α → Bool} (w : Swo c) {R : α → α → Prop} (hR : ∀ a b z, R a b → R b z → R a z) {a b z : α} (h1 : Pr c R a b) (h2 : Pr c R b z) : Pr c R a z := by
  rcases h1 with h1 | ⟨h1, r1⟩ <;> rcases h2 with h2 | ⟨h2, r2⟩
  · exact .inl (w.trans h1 h2)
  · rcases w.neg a b z h1 with h | h
    · exact .inl h
    · rw [h2] at h; cases h
  · rcases w.neg b z a h2 with h | h
    · rw [h1] at h; cases h
    · exact .inl h
  · refine .inr ⟨?_, hR _ _ _ r1 r2⟩
    cases h : c z a with
    | false => rfl
    | true =>
      rcases w.neg z a b h with h' | h'
      · rw [h2] at h'; cases h'
      · rw [h1] at h'; cases h'
noncomputable abbrev prN (c : Nat → Nat → Bool) : Nat → Nat → Prop := Pr c (· < ·)
noncomputable def gD (p : Array Nat) (k : Nat) : Nat := p.getD k 0
theorem gD_congr {p q : Array Nat} {i j : Nat} (h : p[i]? = q[j]?) : gD p i = gD q j := by unfold gD; rw [Array.getD_eq_getD_getElem?, Array.getD_eq_getD_getElem?, h]
theorem gD_rev {p : Array Nat} {i j : Nat} (hj : j ≤ p.size) (k : Nat) : gD (kas_rev p i j) k = if i ≤ k ∧ k < j then gD p (i + j - 1 - k) else gD p k := by
  have e := getElem?_mirror_all (i := i) hj k
  unfold kas_rev
  split
  · rename_i h; rw [if_pos h] at e; exact gD_congr e
  · rename_i h; rw [if_neg h] at e; exact gD_congr e
theorem gD_bub {p : Array Nat} {k : Nat} (hs : k < p.size) {d : Nat} (hd : d ≤ k) (i : Nat) : gD (bubble p k d) i = if i = k - d then gD p k else if k - d < i ∧ i ≤ k then gD p (i - 1) else gD p i := by
  have e := getElem?_bubble hs d hd i
  split
  · rename_i h; rw [if_pos h] at e; exact gD_congr e
  · rename_i h
    rw [if_neg h] at e
    split
    · rename_i h2; rw [if_pos h2] at e; exact gD_congr e
    · rename_i h2; rw [if_neg h2] at e; exact gD_congr e
/-- the part below m is arranged, the rest lies as at first -/
structure Arr (n : Nat) (p : Array Nat) (m : Nat) : Prop where
  perm : p.Perm (List.toArray (List.range n))
  tail : ∀ i, m ≤ i → i < n → gD p i = i
  low : ∀ i, i < m → gD p i < m
  le : m ≤ n
theorem Arr.size {n m : Nat} {p : Array Nat} (h : Arr n p m) : p.size = n := by
  have := h.perm.size_eq
  simpa using this
theorem Arr.grow {n m : Nat} {p : Array Nat} (h : Arr n p m) (hm : m < n) : Arr n p (m + 1) :=
  ⟨h.perm, fun i h1 h2 => h.tail i (by lia) h2, fun i hi => by
    by_cases q : i = m
    · subst q; rw [h.tail i (Nat.le_refl _) hm]; lia
    · have := h.low i (by lia); lia, hm⟩
theorem Arr.rev {n m i j : Nat} {p : Array Nat} (h : Arr n p m) (hj : j ≤ m) : Arr n (kas_rev p i j) m :=
  ⟨(mirror_perm p i j _).trans h.perm, fun k h1 h2 => by rw [gD_rev (by rw [h.size]; have := h.le; lia), if_neg (by lia)]; exact h.tail k h1 h2, fun k hk => by
    rw [gD_rev (by rw [h.size]; have := h.le; lia)]
    split
    · exact h.low _ (by lia)
    · exact h.low _ hk, h.le⟩
noncomputable def Srt (c : Nat → Nat → Bool) (p : Array Nat) (m : Nat) : Prop := ∀ i j, i < j → j < m → prN c (gD p i) (gD p j)
section
variable {c : Nat → Nat → Bool} {n : Nat}
theorem pr_tr {a b z : Nat} (w : Swo c) (h1 : prN c a b) (h2 : prN c b z) : prN c a z := Pr.trans (R := fun x y => x < y) w (fun _ _ _ h1 h2 => Nat.lt_trans h1 h2) h1 h2
/-- a falling part: the last q + 1 items are alike, in their first order; all above them is greater -/
structure Fall (c : Nat → Nat → Bool) (p : Array Nat) (m q : Nat) : Prop where
  qm : q + 1 ≤ m
  up : ∀ i j, i < j → j < m - (q + 1) → prN c (gD p j) (gD p i)
  gt : ∀ i j, i < m - (q + 1) → m - (q + 1) ≤ j → j < m → c (gD p j) (gD p i) = true
  eq : ∀ i j, m - (q + 1) ≤ i → i < j → j < m → gD p i < gD p j ∧ c (gD p i) (gD p j) = false ∧ c (gD p j) (gD p i) = false
theorem Fall.rev {p : Array Nat} {m q : Nat} (h : Fall c p m q) (hz : m ≤ p.size) : ∀ i j, i < j → j < m → prN c (gD (kas_rev p (m - (q + 1)) m) j) (gD (kas_rev p (m - (q + 1)) m) i) := by
  intro i j hij hj
  have qm := h.qm
  rw [gD_rev hz, gD_rev hz]
  by_cases h1 : m - (q + 1) ≤ i
  · rw [if_pos (by lia), if_pos (by lia)]
    have := h.eq (m - (q + 1) + m - 1 - j) (m - (q + 1) + m - 1 - i) (by lia) (by lia) (by lia)
    exact .inr ⟨this.2.2, this.1⟩
  · rw [if_neg (show ¬ (m - (q + 1) ≤ i ∧ i < m) by lia)]
    by_cases h2 : m - (q + 1) ≤ j
    · rw [if_pos (by lia)]
      exact .inl (h.gt _ _ (by lia) (by lia) (by lia))
    · rw [if_neg (by lia)]
      exact h.up i j hij (by lia)
theorem Fall.turn {p : Array Nat} {m q : Nat} (h : Fall c p m q) (hz : m ≤ p.size) : ∀ i j, i < j → j < m → prN c (gD (if q > 0 then kas_rev p (m - (q + 1)) m else p) j) (gD (if q > 0 then kas_rev p (m - (q + 1)) m else p) i) := by
  intro i j hij hj
  by_cases hq : q > 0
  · rw [if_pos hq]; exact h.rev hz i j hij hj
  · rw [if_neg hq]
    obtain rfl : q = 0 := by lia
    by_cases h2 : m - 1 ≤ j
    · exact .inl (h.gt i j (by lia) (by lia) hj)
    · exact h.up i j hij (by lia)
variable (w : Swo c)
include w
theorem asc_ok {p : Array Nat} : ∀ (f m : Nat), Arr n p m → 1 ≤ m → m + f = n → Srt c p m → askOk c n (kas_asc p f m) (fun m' => 1 ≤ m' ∧ Arr n p m' ∧ Srt c p m' ∧ (m' = n ∨ c (gD p m') (gD p (m' - 1)) = true) ∧ m ≤ m')
  | 0, m, ha, h1, hf, hs => ⟨h1, ha, hs, .inl (by lia), Nat.le_refl _⟩
  | f + 1, m, ha, h1, hf, hs => by
    have e1 : gD p m = m := ha.tail m (Nat.le_refl _) (by lia)
    have e2 : gD p (m - 1) < m := ha.low _ (by lia)
    refine ⟨by show gD p m < n; lia, by show gD p (m - 1) < n; lia, ?_⟩
    show askOk c n (if c (gD p m) (gD p (m - 1)) = true then .ret m else kas_asc p f (m + 1)) _
    cases hb : c (gD p m) (gD p (m - 1)) with
    | true => rw [if_pos rfl]; exact ⟨h1, ha, hs, .inr hb, Nat.le_refl _⟩
    | false =>
      rw [if_neg Bool.false_ne_true]
      refine askOk.mono (fun m' h => ⟨h.1, h.2.1, h.2.2.1, h.2.2.2.1, Nat.le_of_succ_le h.2.2.2.2⟩) _ (asc_ok f (m + 1) (ha.grow (by lia)) (by lia) (by lia) fun i j hij hj => ?_)
      by_cases q : j = m
      · subst q
        have last : prN c (gD p (j - 1)) (gD p j) := .inr ⟨hb, by lia⟩
        by_cases qi : i = j - 1
        · subst qi; exact last
        · exact pr_tr w (hs i (j - 1) (by lia) (by lia)) last
      · exact hs i j hij (by lia)
theorem desc_ok : ∀ (f : Nat) (p : Array Nat) (m q : Nat), Arr n p m → m + f = n → Fall c p m q → askOk c n (kas_desc f p m q) (fun r => Arr n r.1 r.2.1 ∧ Fall c r.1 r.2.1 r.2.2)
  | 0, p, m, q, ha, hf, hF => ⟨ha, hF⟩
  | f + 1, p, m, q, ha, hf, hF => by
    have qm := hF.qm
    have e1 : gD p m = m := ha.tail m (Nat.le_refl _) (by lia)
    have e2 : gD p (m - 1) < m := ha.low _ (by lia)
    have hz : m ≤ p.size := by rw [ha.size]; lia
    refine ⟨by show gD p m < n; lia, by show gD p (m - 1) < n; lia, ?_⟩
    show askOk c n (if c (gD p m) (gD p (m - 1)) = true then (if q > 0 then kas_desc f (kas_rev p (m - (q + 1)) m) (m + 1) 0 else kas_desc f p (m + 1) 0) else .ask (gD p (m - 1)) (gD p m) fun d => if d = true then .ret (p, m, q) else kas_desc f p (m + 1) (q + 1)) _
    cases hb : c (gD p m) (gD p (m - 1)) with
    | true =>
      rw [if_pos rfl]
      have all : ∀ i, i < m → c (gD p m) (gD p i) = true := fun i hi => by
        by_cases hu : i < m - (q + 1)
        · exact w.trans hb (hF.gt i (m - 1) hu (by lia) (by lia))
        · by_cases hl : i = m - 1
          · subst hl; exact hb
          · have := hF.eq i (m - 1) (by lia) (by lia) (by lia)
            rcases w.neg _ _ (gD p i) hb with h | h
            · exact h
            · rw [this.2.1] at h; cases h
      have tn := hF.turn hz
      have go : ∀ p' : Array Nat, Arr n p' (m + 1) → (p' = if q > 0 then kas_rev p (m - (q + 1)) m else p) → Fall c p' (m + 1) 0 := by
        intro p' ha' e
        have em : gD p' m = gD p m := by
          rw [e]; split
          · rw [gD_rev hz, if_neg (by lia)]
          · rfl
        have el : ∀ i, i < m → ∃ i', i' < m ∧ gD p' i = gD p i' := fun i hi => by
          rw [e]; split
          · rw [gD_rev hz]
            split
            · exact ⟨_, by lia, rfl⟩
            · exact ⟨i, hi, rfl⟩
          · exact ⟨i, hi, rfl⟩
        refine ⟨by lia, fun i j hij hj => ?_, fun i j hi hj1 hj2 => ?_, fun i j h1 h2 h3 => by lia⟩
        · rw [e]; exact tn i j hij (by lia)
        · obtain rfl : j = m := by lia
          obtain ⟨i', hi', ei⟩ := el i (by lia)
          rw [em, ei]; exact all i' hi'
      by_cases hq : q > 0
      · rw [if_pos hq]
        have ha' := (ha.rev (i := m - (q + 1)) (Nat.le_refl m)).grow (by lia)
        exact desc_ok f _ (m + 1) 0 ha' (by lia) (go _ ha' (by rw [if_pos hq]))
      · rw [if_neg hq]
        have ha' := ha.grow (by lia)
        exact desc_ok f p (m + 1) 0 ha' (by lia) (go _ ha' (by rw [if_neg hq]))
    | false =>
      rw [if_neg Bool.false_ne_true]
      refine ⟨by lia, by lia, ?_⟩
      cases hd : c (gD p (m - 1)) (gD p m) with
      | true => dsimp only; rw [if_pos rfl]; exact ⟨ha, hF⟩
      | false =>
        dsimp only
        rw [if_neg Bool.false_ne_true]
        refine desc_ok f p (m + 1) (q + 1) (ha.grow (by lia)) (by lia) ⟨by lia, fun i j hij hj => hF.up i j hij (by lia), fun i j hi hj1 hj2 => ?_, fun i j h1 h2 h3 => ?_⟩
        · by_cases hj : j = m
          · subst hj
            have g := hF.gt i (j - 1) (by lia) (by lia) (by lia)
            rcases w.neg _ _ (gD p j) g with h | h
            · rw [hd] at h; cases h
            · exact h
          · exact hF.gt i j (by lia) (by lia) (by lia)
        · by_cases hj : j = m
          · subst hj
            by_cases hl : i = j - 1
            · subst hl; exact ⟨by lia, hd, hb⟩
            · have g := hF.eq i (j - 1) (by lia) (by lia) (by lia)
              have li : gD p i < j := ha.low i (by lia)
              refine ⟨by lia, ?_, ?_⟩
              · cases h : c (gD p i) (gD p j) with
                | false => rfl
                | true =>
                  rcases w.neg _ _ (gD p (j - 1)) h with h' | h'
                  · rw [g.2.1] at h'; cases h'
                  · rw [hd] at h'; cases h'
              · cases h : c (gD p j) (gD p i) with
                | false => rfl
                | true =>
                  rcases w.neg _ _ (gD p (j - 1)) h with h' | h'
                  · rw [hb] at h'; cases h'
                  · rw [g.2.2] at h'; cases h'
          · exact hF.eq i j (by lia) h2 (by lia)
noncomputable def Done (c : Nat → Nat → Bool) (n : Nat) (r : Nat × Array Nat) : Prop := 1 ≤ r.1 ∧ Arr n r.2 r.1 ∧ Srt c r.2 r.1
theorem tail3_ok {p : Array Nat} {m : Nat} (ha : Arr n p m) (h1 : 1 ≤ m) (hr : ∀ i j, i < j → j < m → prN c (gD p j) (gD p i)) : askOk c n (kas_tail3 m n p) (Done c n) := by
  have hz : m ≤ p.size := by rw [ha.size]; exact ha.le
  refine askOk.bind _ (askOk.mono (fun m' h => ⟨h.1, h.2.1, h.2.2.1⟩) _ (asc_ok w (n - m) m (ha.rev (i := 0) (Nat.le_refl m)) h1 (by have := ha.le; lia) fun i j hij hj => ?_))
  rw [gD_rev hz, gD_rev hz, if_pos (by lia), if_pos (by lia)]
  exact hr _ _ (by lia) (by lia)
theorem descPart_ok {p : Array Nat} {m : Nat} (ha : Arr n p (m + 1)) (hF : Fall c p (m + 1) 0) : askOk c n (kas_descPart m n p) (Done c n) := by
  refine askOk.bind _ (askOk.mono (fun r h => ?_) _ (desc_ok w (n - (m + 1)) p (m + 1) 0 ha (by have := ha.le; lia) hF))
  obtain ⟨p', m', q'⟩ := r
  obtain ⟨ha', hF'⟩ := h
  have hz : m' ≤ p'.size := by rw [ha'.size]; exact ha'.le
  have t := hF'.turn hz
  have qm := hF'.qm
  dsimp only at ha' hF' qm t ⊢
  by_cases hq : q' > 0
  · rw [if_pos hq]
    rw [if_pos hq] at t
    exact tail3_ok w (ha'.rev (Nat.le_refl m')) (by lia) t
  · rw [if_neg hq]
    rw [if_neg hq] at t
    exact tail3_ok w ha' (by lia) t
theorem count_ok {p : Array Nat} (ha : Arr n p 1) : askOk c n (kas_count n p) (Done c n) := by
  have hn := ha.le
  refine askOk.bind _ (askOk.mono (fun m h => ?_) _ (asc_ok w (n - 1) 1 ha (Nat.le_refl _) (by lia) fun i j hij hj => by lia))
  obtain ⟨h1, ham, hs, hend, _⟩ := h
  by_cases e : (m == n) = true
  · rw [if_pos e]; exact ⟨h1, ham, hs⟩
  · rw [if_neg e]
    have hmn : m ≠ n := by simpa using e
    have hlt : m < n := by have := ham.le; lia
    have hc : c (gD p m) (gD p (m - 1)) = true := by
      rcases hend with h | h
      · exact absurd h hmn
      · exact h
    have e1 : gD p m = m := ham.tail m (Nat.le_refl _) hlt
    have hz : m ≤ p.size := by rw [ha.size]; lia
    by_cases hm : m > 1
    · rw [if_pos hm]
      have e0 : gD p 0 < m := ham.low 0 (by lia)
      have e2 : gD p (m - 1) < m := ham.low _ (by lia)
      refine ⟨by show gD p 0 < n; lia, by show gD p (m - 1) < n; lia, ?_⟩
      show askOk c n (if c (gD p 0) (gD p (m - 1)) = true then _ else _) _
      cases hb : c (gD p 0) (gD p (m - 1)) with
      | true => rw [if_pos rfl]; exact ⟨h1, ham, hs⟩
      | false =>
        rw [if_neg Bool.false_ne_true]
        -- all are alike
        have nlt : ∀ i j, i ≤ j → j < m → c (gD p j) (gD p i) = false := fun i j hij hj => by
          by_cases q : i = j
          · subst q
            cases h : c (gD p i) (gD p i) with
            | false => rfl
            | true => have := w.asym _ _ h; rw [h] at this; cases this
          · rcases hs i j (by lia) hj with h | h
            · exact w.asym _ _ h
            · exact h.1
        have alike : ∀ i j, i < m → j < m → c (gD p i) (gD p j) = false := fun i j hi hj => by
          cases h : c (gD p i) (gD p j) with
          | false => rfl
          | true =>
            rcases w.neg _ _ (gD p 0) h with h' | h'
            · rw [nlt 0 i (by lia) hi] at h'; cases h'
            · rcases w.neg _ _ (gD p (m - 1)) h' with h'' | h''
              · rw [hb] at h''; cases h''
              · rw [nlt j (m - 1) (by lia) (by lia)] at h''; cases h''
        have idx : ∀ i j, i < j → j < m → gD p i < gD p j := fun i j hij hj => by
          rcases hs i j hij hj with h | h
          · rw [alike i j (by lia) hj] at h; cases h
          · exact h.2
        have har := (ham.rev (i := 0) (Nat.le_refl m)).grow hlt
        refine descPart_ok w har ⟨by lia, fun i j hij hj => ?_, fun i j hi hj1 hj2 => ?_, fun i j a1 a2 a3 => by lia⟩
        · rw [gD_rev hz, gD_rev hz, if_pos (by lia), if_pos (by lia)]
          exact .inr ⟨alike _ _ (by lia) (by lia), idx _ _ (by lia) (by lia)⟩
        · obtain rfl : j = m := by lia
          rw [gD_rev hz, gD_rev hz, if_neg (by lia), if_pos (by lia)]
          rcases w.neg _ _ (gD p (0 + j - 1 - i)) hc with h | h
          · exact h
          · rw [alike _ _ (by lia) (by lia)] at h; cases h
    · rw [if_neg hm]
      obtain rfl : m = 1 := by lia
      refine descPart_ok w (ham.grow hlt) ⟨by lia, fun i j hij hj => by lia, fun i j hi hj1 hj2 => ?_, fun i j a1 a2 a3 => by lia⟩
      obtain rfl : j = 1 := by lia
      obtain rfl : i = 0 := by lia
      exact hc
theorem place_ok {p : Array Nat} {k : Nat} (ha : Arr n p k) (hk : k < n) (hs : Srt c p k) : ∀ (f l r : Nat), r - l ≤ f → l ≤ r → r ≤ k → (∀ i, i < l → prN c (gD p i) k) → (∀ i, r ≤ i → i < k → prN c k (gD p i)) →
    askOk c n (kas_place p k f l r) (fun l => l ≤ k ∧ (∀ i, i < l → prN c (gD p i) k) ∧ ∀ i, l ≤ i → i < k → prN c k (gD p i))
  | 0, l, r, hf, hl, hr, a, b => ⟨by lia, a, fun i h1 h2 => b i (by lia) h2⟩
  | f + 1, l, r, hf, hl, hr, a, b => by
    unfold kas_place
    by_cases hlr : l ≥ r
    · rw [if_pos hlr]; exact ⟨by lia, a, fun i h1 h2 => b i (by lia) h2⟩
    · rw [if_neg hlr]
      have ek : gD p k = k := ha.tail k (Nat.le_refl _) hk
      have em : gD p ((l + r) / 2) < k := ha.low _ (by lia)
      refine ⟨by show gD p k < n; lia, by show gD p ((l + r) / 2) < n; lia, ?_⟩
      show askOk c n (if c (gD p k) (gD p ((l + r) / 2)) = true then _ else _) _
      rw [ek]
      cases hb : c k (gD p ((l + r) / 2)) with
      | true =>
        rw [if_pos rfl]
        refine place_ok ha hk hs f l ((l + r) / 2) (by lia) (by lia) (by lia) a fun i h1 h2 => ?_
        by_cases q : i = (l + r) / 2
        · subst q; exact .inl hb
        · exact pr_tr w (.inl hb) (hs _ _ (by lia) h2)
      | false =>
        rw [if_neg Bool.false_ne_true]
        refine place_ok ha hk hs f ((l + r) / 2 + 1) r (by lia) (by lia) hr (fun i hi => ?_) b
        have mid : prN c (gD p ((l + r) / 2)) k := .inr ⟨hb, em⟩
        by_cases q : i = (l + r) / 2
        · subst q; exact mid
        · exact pr_tr w (hs _ _ (by lia) (by lia)) mid
theorem bin_ok : ∀ (f : Nat) (p : Array Nat) (k : Nat), Arr n p k → k + f = n → Srt c p k → askOk c n (kas_bin f p k) (fun p' => Arr n p' n ∧ Srt c p' n)
  | 0, p, k, ha, hf, hs => by
    obtain rfl : k = n := by lia
    exact ⟨ha, hs⟩
  | f + 1, p, k, ha, hf, hs => by
    have hk : k < n := by lia
    refine askOk.bind _ (askOk.mono (fun l h => ?_) _ (place_ok w ha hk hs k 0 k (by lia) (by lia) (Nat.le_refl _) (fun i hi => by lia) fun i h1 h2 => by lia))
    obtain ⟨hl, hlo, hhi⟩ := h
    have hsz : k < p.size := by rw [ha.size]; exact hk
    have ek : gD p k = k := ha.tail k (Nat.le_refl _) hk
    have g : ∀ i, gD (bubble p k (k - l)) i = if i = l then k else if l < i ∧ i ≤ k then gD p (i - 1) else gD p i := fun i => by
      rw [gD_bub hsz (by lia), show k - (k - l) = l by lia, ek]
    refine bin_ok f _ (k + 1) ⟨(bubble_perm p k _).trans ha.perm, fun i h1 h2 => ?_, fun i hi => ?_, hk⟩ (by lia) fun i j hij hj => ?_
    · rw [g, if_neg (by lia), if_neg (by lia)]; exact ha.tail i (by lia) h2
    · rw [g]
      split
      · lia
      · split
        · have := ha.low (i - 1) (by lia); lia
        · have := ha.low i (by lia); lia
    · rw [g, g]
      by_cases h1 : i = l
      · rw [if_pos h1, if_neg (by lia), if_pos (by lia)]; exact hhi _ (by lia) (by lia)
      · rw [if_neg h1]
        by_cases h2 : j = l
        · rw [if_pos h2, if_neg (by lia)]; exact hlo i (by lia)
        · rw [if_neg h2]
          by_cases h3 : l < i ∧ i ≤ k
          · rw [if_pos h3, if_pos (by lia)]; exact hs _ _ (by lia) (by lia)
          · rw [if_neg h3]
            by_cases h4 : l < j ∧ j ≤ k
            · rw [if_pos h4]
              by_cases h5 : i = j - 1
              · lia
              · exact hs _ _ (by lia) (by lia)
            · rw [if_neg h4]; exact hs _ _ hij (by lia)
theorem sort_ok (hn : 1 ≤ n) : askOk c n (kas_sort n) (fun p => p.toList.Perm (List.range n) ∧ p.toList.Pairwise (prN c)) := by
  have a1 : Arr n (List.toArray (List.range n)) 1 := by
    have g : ∀ i, i < n → gD (List.toArray (List.range n)) i = i := fun i hi => by simp [gD, Array.getD, hi]
    exact ⟨Array.Perm.refl _, fun i h1 h2 => g i h2, fun i hi => by rw [g i (by lia)]; exact hi, hn⟩
  have fin : ∀ p : Array Nat, Arr n p n → Srt c p n → p.toList.Perm (List.range n) ∧ p.toList.Pairwise (prN c) := fun p ha hs => by
    refine ⟨?_, ?_⟩
    · have := ha.perm.toList
      simpa using this
    · rw [List.pairwise_iff_getElem]
      intro i j hi hj hij
      have hz := ha.size
      rw [Array.length_toList] at hi hj
      have := hs i j hij (by lia)
      have e : ∀ k (hk : k < p.size), gD p k = p.toList[k]'(by simpa using hk) := fun k hk => by simp [gD, Array.getD, hk]
      rw [e i hi, e j hj] at this
      exact this
  refine askOk.bind _ (askOk.mono (fun r h => ?_) _ (count_ok w a1))
  obtain ⟨m, p⟩ := r
  obtain ⟨h1, ha, hs⟩ := h
  dsimp only at h1 ha hs ⊢
  by_cases hlt : m < n
  · rw [if_pos hlt, show max m 1 = m by lia]
    exact askOk.mono (fun p' h => fin p' h.1 h.2) _ (bin_ok w (n - m) p m ha (by lia) hs)
  · rw [if_neg hlt]
    obtain rfl : m = n := by have := ha.le; lia
    exact fin p ha hs
end
open PySem PySem.W PySem.W.X PyProof.Rows PySem.Calls
set_option Elab.async false
set_option maxRecDepth 100000
set_option maxHeartbeats 4000000
noncomputable def nil0 : Heap := { objs := #[] }
theorem nil0_get (a : Addr) : nil0.get? a = none := by simp [nil0, Heap.get?]
/-- all that stands, but for some -/
noncomputable def allN (h : Heap) (ex : List Addr) : List (Addr × Obj) := (List.range h.objs.size).filterMap fun a => if a ∈ ex then none else (h.get? a).map fun o => (a, o)
theorem mem_allN {h : Heap} {ex : List Addr} {p : Addr × Obj} : p ∈ allN h ex ↔ h.get? p.1 = some p.2 ∧ p.1 ∉ ex := by
  unfold allN
  rw [List.mem_filterMap]
  constructor
  · rintro ⟨a, _, e⟩
    split at e
    · cases e
    · rename_i hn
      obtain ⟨o, eo, rfl⟩ := Option.map_eq_some_iff.mp e
      exact ⟨eo, hn⟩
  · rintro ⟨e, hn⟩
    exact ⟨p.1, List.mem_range.mpr (Heap.lt_size e), by rw [if_neg hn, e]; rfl⟩
section
variable {B : Bs} {P0 P P1 : PM} {s0 s : Shared} {L C : Addr} {m mC : Str → Option Value} {own own' : List Own} {A : Around} {E : Value → Shared → Prop} {e : Env} {ns : List Str} {vs vs' : List (Option Value)}
theorem St.fr (h : St B P0 s0 P L m own s) : Fr nil0 L s.heap m := ⟨h.ns, fun b o e => (by rw [nil0_get] at e; cases e), Nat.zero_le _⟩
noncomputable abbrev is (o : Obj) : Obj → Prop := fun x => x = o
theorem St.nw1 {a : Addr} {o : Obj} (h : St B P0 s0 P L m ((a, is o) :: own) s) : News nil0 L s.heap ((a, o) :: allN s.heap [L, a]) ∧ UpdF a o ((a, o) :: allN s.heap [L, a]) (fun o' => (a, o') :: allN s.heap [L, a]) := by
  obtain ⟨o1, e1, rfl⟩ := h.head
  have hL := (h.own _ (.head _)).2.1
  refine ⟨fun p hp => ?_, .head fun p hp => ?_⟩
  · rcases List.mem_cons.mp hp with rfl | hp
    · exact ⟨e1, hL, nil0_get _⟩
    · obtain ⟨x, y⟩ := mem_allN.mp hp
      simp only [List.mem_cons, List.not_mem_nil, or_false, not_or] at y
      exact ⟨x, y.1, nil0_get _⟩
  · obtain ⟨x, y⟩ := mem_allN.mp hp
    simp only [List.mem_cons, List.not_mem_nil, or_false, not_or] at y
    exact y.2
/-- the head of the own things and the frame may have changed -/
theorem St.chgL {x : Addr} {p p' : Obj → Prop} (h : St B P0 s0 P L m ((x, p) :: own) s) {h' : Heap} {o' : Obj} (k : ∀ b o, b ≠ x → b ≠ L → s.heap.get? b = some o → h'.get? b = some o) (n : h'.Ns L m) (e' : h'.get? x = some o') (hp' : p' o') (t : Nat) :
    St B P0 s0 P L m ((x, p') :: own) { s with heap := h', toks := t } := by
  have hx := h.own (x, p) (.head _)
  have hne : ∀ b o, P b = some o → b ≠ x := fun b o e q => by rw [q, hx.2.2.1] at e; cases e
  have hnL : ∀ b o, P b = some o → b ≠ L := fun b o e q => by rw [q, h.lf.1] at e; cases e
  have nd := List.pairwise_cons.mp h.nd
  refine ⟨h.wd.step (fun b o e => k b o (hne b o e) (hnL b o e) (h.wd.fz b o e)) (fun b hb o e => k b o (fun q => hx.2.2.2.2 (q ▸ hb)) (fun q => h.lf.2.2 (q ▸ hb)) e) rfl h.wd.gb, h.le, h.nw,
    fun a o e ht => k a o (fun q => ?_) (fun q => ?_) (h.kp a o e ht), n, h.lf, fun q hq => ?_, List.pairwise_cons.mpr nd⟩
  · have := hx.2.2.2.1; rw [q, this] at e; cases e
  · rw [q, h.lf.2.1] at e; cases e
  · rcases List.mem_cons.mp hq with rfl | hq
    · exact ⟨⟨o', e', hp'⟩, hx.2⟩
    · obtain ⟨⟨o, e, z⟩, r⟩ := h.own q (.tail _ hq)
      exact ⟨⟨o, k _ _ (Ne.symm (nd.1 q hq)) r.1 e, z⟩, r⟩
theorem St.upd1 {a : Addr} {o o' : Obj} (h : St B P0 s0 P L m ((a, is o) :: own) s) {h' : Heap} (F : Fr nil0 L h' m) (N : News nil0 L h' ((a, o') :: allN s.heap [L, a])) (t : Nat) : St B P0 s0 P L m ((a, is o') :: own) { s with heap := h', toks := t } := by
  refine h.chgL (p' := is o') (fun b o hb hL e => (N (b, o) (.tail _ (mem_allN.mpr ⟨e, by simp [hb, hL]⟩))).1) F.ns (N (a, o') (.head _)).1 rfl t
/-- the state in which the keys are made -/
theorem St.sort0 (h : St B P0 s0 P L m own s) {D kS e1 : Nat} {h' : Heap} (F : Fr nil0 L h' m) (N : News nil0 L h' ((kS, seqObj "list" #[] 0) :: (D, seqObj "list" #[] e1) :: allN s.heap [L])) (hlt : D < kS) (hlo : ∀ q ∈ allN s.heap [L], q.1 < D) :
    St B P0 s0 P L m ((kS, is (seqObj "list" #[] 0)) :: (D, is (seqObj "list" #[] e1)) :: own) { s with heap := h' } := by
  have nk := N _ (.head _)
  have nd := N _ (.tail _ (.head _))
  have kk : ∀ b o, b ≠ L → s.heap.get? b = some o → h'.get? b = some o := fun b o hb e => (N (b, o) (.tail _ (.tail _ (mem_allN.mpr ⟨e, by simpa using hb⟩)))).1
  have freshD : s.heap.get? D = none := by
    cases q : s.heap.get? D with
    | none => rfl
    | some o' => exact absurd (hlo (D, o') (mem_allN.mpr ⟨q, by simpa using nd.2.1⟩)) (Nat.lt_irrefl _)
  have freshK : s.heap.get? kS = none := by
    cases q : s.heap.get? kS with
    | none => rfl
    | some o' => exact absurd (Nat.lt_trans (hlo (kS, o') (mem_allN.mpr ⟨q, by simpa using nk.2.1⟩)) hlt) (Nat.lt_irrefl _)
  have hnL : ∀ b o, P b = some o → b ≠ L := fun b o e q => by rw [q, h.lf.1] at e; cases e
  have h1 : St B P0 s0 P L m own { s with heap := h' } := by
    refine ⟨h.wd.step (fun b o e => kk b o (hnL b o e) (h.wd.fz b o e)) (fun b hb o e => kk b o (fun q => h.lf.2.2 (q ▸ hb)) e) rfl h.wd.gb, h.le, h.nw, fun a o e ht => kk a o (fun q => ?_) (h.kp a o e ht), F.ns, h.lf, fun q hq => ?_, h.nd⟩
    · rw [q, h.lf.2.1] at e; cases e
    · obtain ⟨⟨o, e, z⟩, r⟩ := h.own q hq
      exact ⟨⟨o, kk _ _ r.1 e, z⟩, r⟩
  have fresh : ∀ a, s.heap.get? a = none → P a = none ∧ s0.heap.get? a = none ∧ a ∉ tabs ∧ ∀ q ∈ own, a ≠ q.1 := fun a ha => by
    have ht : a ∉ tabs := fun ht => by
      obtain ⟨o', e⟩ := h.wd.tabAt ht
      rw [ha] at e; cases e
    refine ⟨?_, ?_, ht, fun q hq e => ?_⟩
    · cases q : P a with
      | none => rfl
      | some o' => rw [h.wd.fz _ _ q] at ha; cases ha
    · cases q : s0.heap.get? a with
      | none => rfl
      | some o' => rw [h.kp _ _ q ht] at ha; cases ha
    · obtain ⟨⟨o, eo, _⟩, _⟩ := h.own q hq
      rw [← e, ha] at eo; cases eo
  have fD := fresh D freshD
  have fK := fresh kS freshK
  have h2 := h1.add (a := D) (p := is (seqObj "list" #[] e1)) nd.1 rfl ⟨fD.1, fD.2.1, fD.2.2.1, nd.2.1, fD.2.2.2⟩
  exact h2.add (a := kS) (p := is (seqObj "list" #[] 0)) nk.1 rfl ⟨fK.1, fK.2.1, fK.2.2.1, nk.2.1, fun q hq => by
    rcases List.mem_cons.mp hq with rfl | hq
    · exact Nat.ne_of_gt hlt
    · exact fK.2.2.2 q hq⟩
theorem keysOk {xs : List Value} {f : Value} {kS D e1 : Nat} {Fin : List Value → Nat → Shared → Prop} (KR : PM → Nat → Value → Prop) (mono : ∀ P P' k v, P.le P' → KR P k v → KR P' k v)
    (step : ∀ k x P' s', xs[k]? = some x → P.le P' → Wd B P' s' → (∀ q ∈ own, ∃ o, s'.heap.get? q.1 = some o ∧ q.2 o) → Spec B A f [x] P' s' (fun P'' v => KR P'' k v))
    (fin : ∀ P' ks e s', P.le P' → ks.length = xs.length → (∀ (k : Nat) v, ks[k]? = some v → KR P' k v) → St B P0 s0 P' L m ((kS, is (seqObj "list" (List.toArray ks) e)) :: (D, is (seqObj "list" #[] e1)) :: own) s' → Fin ks e s') :
    ∀ (r ks : List Value) (e : Nat) (s : Shared) (P' : PM), P.le P' → xs.drop ks.length = r → ks.length + r.length = xs.length → (∀ (k : Nat) v, ks[k]? = some v → KR P' k v) → St B P0 s0 P' L m ((kS, is (seqObj "list" (List.toArray ks) e)) :: (D, is (seqObj "list" #[] e1)) :: own) s →
      KatKeys prg B.w A nil0 L m kS f Fin r ks e s
  | [], ks, e, s, P', l, _, hl, hk, h => fin P' ks e s l (by simpa using hl) hk h
  | v :: r, ks, e, s, P', l, hd, hl, hk, h => by
    have hv : xs[ks.length]? = some v := by
      have := congrArg (fun l => l[0]?) hd
      simpa using this
    refine KatKeys.cons (wpAny_mono (step ks.length v P' s hv l h.wd fun q hq => (h.own q (.tail _ (.tail _ hq))).1) (fun kv s' o => ?_) fun _ _ x => x)
    obtain ⟨P2, l2, hkv, h2⟩ := h.back o
    obtain ⟨N2, U2⟩ := h2.nw1
    refine KatBack.intro h2.fr N2 U2 fun h' c F' N' => ?_
    have h3 := h2.upd1 F' N' s'.toks
    refine keysOk KR mono step fin r (ks ++ [kv]) c _ P2 (l.trans l2) ?_ ?_ (fun k u hu => ?_) h3
    · rw [List.length_append, List.length_singleton, ← List.drop_drop, hd]; rfl
    · simp at hl ⊢; lia
    · rcases Nat.lt_trichotomy k ks.length with q | q | q
      · rw [List.getElem?_append_left q] at hu
        exact mono _ _ _ _ l2 (hk k u hu)
      · subst q
        have e9 : kv = u := by simpa using hu
        exact e9 ▸ hkv
      · rw [List.getElem?_eq_none (by simp; lia)] at hu; cases hu
/-- sorted(list, key=f, reverse=b) -/
theorem sortedSt {v f T : Value} {xs : List Value} {b : Bool} {kw : List (Str × Value)} {Q : Value → Shared → Prop} {c : Nat → Nat → Bool} (h : St B P0 s0 P L m own s) (rl : RL P v xs) (h2 : 2 ≤ xs.length) (h64 : xs.length < 64)
    (ha1 : ∀ l, argsOk "sorted" ⟨[.ref l], kw⟩) (ha2 : ∀ x, argsOk "list.sort" ⟨[.ref x], kw⟩) (ht : ∀ x, Builtin.«list.sort» ⟨[.ref x], kw⟩ = ksk_tree x f b)
    (KR : PM → Nat → Value → Prop) (mono : ∀ P P' k v, P.le P' → KR P k v → KR P' k v)
    (step : ∀ k x P' s', xs[k]? = some x → P.le P' → Wd B P' s' → (∀ q ∈ own, ∃ o, s'.heap.get? q.1 = some o ∧ q.2 o) → Spec B A.in1.in1 f [x] P' s' (fun P'' v => KR P'' k v))
    (hT : ∀ P' k v own s', P.le P' → KR P' k v → St B P0 s0 P' L m own s' → Looks (mdl B) s'.heap (typeOf v) T) (hT1 : (T != Value.type "tuple") = true) (hT2 : (T == T) = true)
    (w : Swo c) (cmp : ∀ i j P' x y own s' (Q' : Bool → Shared → Prop), i < xs.length → j < xs.length → P.le P' → KR P' i x → KR P' j y → St B P0 s0 P' L m own s' → (∀ P'' s'', P'.le P'' → St B P0 s0 P'' L m own s'' → Q' (c i j) s'') → wpAny (mdl B) A.in1.in1 (keyLt' oneType' x y) Q' no s')
    (q : ∀ P' D idx s', P.le P' → List.Perm idx (List.range xs.length) → idx.Pairwise (fun i j => if b = true then Pr (fun i j => c j i) (· < ·) i j else Pr c (· < ·) i j) → St B P0 s0 P' L m ((D, isLst (idx.map fun i => xs.getD i Value.none)) :: own) s' → Q (.ref D) s') :
    wpAny (mdl B) A (call (.builtin "sorted") [v] kw) Q E s := by
  obtain ⟨l, rfl, hl⟩ := h.lst rl
  have n0 : News nil0 L s.heap (allN s.heap [L]) := fun p hp => by
    obtain ⟨x, y⟩ := mem_allN.mp hp
    exact ⟨x, by simpa using y, nil0_get _⟩
  refine kat_sortedK (b := b) h.fr n0 hl h2 h64 (ha1 l) ha2 ht fun D kS e1 h' F' N' lt lo => ?_
  refine keysOk (P := P) (xs := xs) KR mono step (fun P' ks e s' l1 lk hk h => ?_) xs [] 0 _ P (PM.le.refl _) rfl (by simp) (fun k v hv => by simp at hv) (h.sort0 F' N' lt lo)
  refine kas_kind (by lia) (fun x hx => ?_) hT1 hT2 ?_
  · obtain ⟨k, hk'⟩ := List.mem_iff_getElem?.mp hx
    exact hT P' k x _ s' l1 (hk k x hk') h
  -- the questions
  obtain ⟨n, en⟩ : ∃ n, n = xs.length := ⟨_, rfl⟩
  have rev_at : ∀ i, i < n → (katRev b ks).getD i Value.none = ks.getD (if b = true then n - 1 - i else i) Value.none := fun i hi => by
    cases b with
    | false => rfl
    | true =>
      show ks.reverse.getD i Value.none = _
      rw [List.getD_eq_getElem?_getD, List.getD_eq_getElem?_getD, List.getElem?_reverse (by lia), lk, ← en]
      rfl
  have key_at : ∀ i, i < n → ks[i]? = some (ks.getD i Value.none) := fun i hi => by
    rw [List.getD_eq_getElem?_getD, List.getElem?_eq_getElem (by lia)]; rfl
  have w' : Swo (fun i j => c (if b = true then n - 1 - i else i) (if b = true then n - 1 - j else j)) := ⟨fun x y => w.asym _ _, fun x y z => w.neg _ _ _⟩
  refine askOk.wp (n := n) (c := fun i j => c (if b = true then n - 1 - i else i) (if b = true then n - 1 - j else j)) (I := fun s2 => ∃ P2, P'.le P2 ∧ St B P0 s0 P2 L m ((kS, is (seqObj "list" (List.toArray ks) e)) :: (D, is (seqObj "list" #[] e1)) :: own) s2) ?_ ?_ _ s' (by rw [← en]; exact sort_ok w' (by lia)) ⟨P', PM.le.refl _, h⟩
  · rintro i j C s2 hi hj ⟨P2, l2, g2⟩ hC
    unfold kas_ask
    rw [rev_at i hi, rev_at j hj]
    have hi' : (if b = true then n - 1 - i else i) < n := by split <;> lia
    have hj' : (if b = true then n - 1 - j else j) < n := by split <;> lia
    refine cmp _ _ P2 _ _ _ s2 C (by lia) (by lia) (l1.trans l2) (mono _ _ _ _ l2 (hk _ _ (key_at _ hi'))) (mono _ _ _ _ l2 (hk _ _ (key_at _ hj'))) g2 fun P3 s3 l3 g3 => hC s3 ⟨P3, l2.trans l3, g3⟩
  · rintro p s2 ⟨pm, pw⟩ ⟨P2, l2, g2⟩
    obtain ⟨N2, U2⟩ := g2.nw1
    refine KatFin.intro g2.fr N2 U2 fun h3 c3 F3 N3 => ?_
    have g3 := (g2.upd1 F3 N3 s2.toks).swap
    obtain ⟨N4, U4⟩ := g3.nw1
    refine KasFin.intro g3.fr N4 U4 fun h5 c5 F5 N5 => ?_
    have g5 := (g3.upd1 F5 N5 s2.toks).swap.drop
    have out : katRev b (p.toList.map fun i => (katRev b xs).getD i Value.none) = (katRev b (p.toList.map fun i => if b = true then n - 1 - i else i)).map fun i => xs.getD i Value.none := by
      have rx : ∀ i, i < n → (katRev b xs).getD i Value.none = xs.getD (if b = true then n - 1 - i else i) Value.none := fun i hi => by
        cases b with
        | false => rfl
        | true =>
          show xs.reverse.getD i Value.none = _
          rw [List.getD_eq_getElem?_getD, List.getD_eq_getElem?_getD, List.getElem?_reverse (by lia), ← en]
          rfl
      have e1 : (p.toList.map fun i => (katRev b xs).getD i Value.none) = (p.toList.map fun i => if b = true then n - 1 - i else i).map fun i => xs.getD i Value.none := by
        rw [List.map_map]
        exact List.map_congr_left fun i hi => rx i (List.mem_range.mp (pm.mem_iff.mp hi))
      rw [e1]
      cases b with
      | false => rfl
      | true => show (List.map _ _).reverse = _; rw [← List.map_reverse]; rfl
    rw [out] at g5
    refine q P2 D _ _ (l1.trans l2) ?_ ?_ (g5.wk fun o ho => ⟨_, ho⟩)
    · rw [← en]
      cases b with
      | false => simpa [katRev] using pm
      | true =>
        show (List.map (fun i => n - 1 - i) p.toList).reverse.Perm _
        refine (List.reverse_perm _).trans ((pm.map _).trans ?_)
        have : (List.range n).map (fun i => n - 1 - i) = (List.range n).reverse := by
          apply List.ext_getElem
          · simp
          · intro i h1 h2; simp
        rw [this]; exact List.reverse_perm _
    · cases b with
      | false =>
        have : (katRev false (p.toList.map fun i => if false = true then n - 1 - i else i)) = p.toList := by simp [katRev]
        rw [this]
        exact pw
      | true =>
        show (List.map (fun i => n - 1 - i) p.toList).reverse.Pairwise _
        rw [List.pairwise_reverse, List.pairwise_map]
        refine pw.imp_of_mem fun {x y} hx hy hxy => ?_
        have hx' := List.mem_range.mp (pm.mem_iff.mp hx)
        have hy' := List.mem_range.mp (pm.mem_iff.mp hy)
        first | walk_at "n" | rw [if_pos rfl]
        rcases hxy with hxy | ⟨h1, h3⟩
        · exact .inl hxy
        · exact .inr ⟨h1, by lia⟩
end
open PySem PySem.W PySem.W.X PyProof.Rows PySem.Calls
set_option Elab.async false
set_option maxRecDepth 100000
set_option maxHeartbeats 4000000
section
variable {B : Bs} {P0 P P1 : PM} {s0 s : Shared} {L C : Addr} {m mC : Str → Option Value} {own own' : List Own} {A : Around} {E : Value → Shared → Prop} {e : Env} {ns : List Str} {vs vs' : List (Option Value)}
theorem CallK {func : Expr} {args : List Expr} {kws : List Keyword} {pos : Pos} {Q : Value → Shared → Prop} {M : Model} (h : wpAny M A (eval func e) (fun f s₁ => wpAny M A (callWith pos f [] (backTo pos (starEach args e)) (backToKw pos (keywordEach kws e))) Q E s₁) E s)
    (he : eval (.Call func args kws pos) e = (do callWith pos (← eval func e) [] (backTo pos (starEach args e)) (backToKw pos (keywordEach kws e)))) : wpAny M A (eval (.Call func args kws pos) e) Q E s := by
  rw [he]; exact wpAny_bind h
/-- an iterator that owns no tuple -/
noncomputable def Lgo (B : Bs) (A : Around) (P : PM) (it : Addr) (p : Nat → Obj → Prop) : Prop :=
  ∀ {k : Nat} {P0 : PM} {s0 : Shared} {P' : PM} {L : Addr} {m : Str → Option Value} {own : List Own} {s : Shared} {E : Value → Shared → Prop} {Q : Unit → Shared → Prop} (elts : List Expr) (x1 : Nat) (tpos : Pos) (a : Addr), P.le P' → St B P0 s0 P' L m ((it, p k) :: own) s → Q () s → wpAny (mdl B) A (letOwnedTupleGo (.Tuple elts x1 tpos) (.ref it) (.ref a)) Q E s
theorem iterLT (h : St B P0 s0 P L m own s) {v : Value} {xs : List Value} {Q : Value → Shared → Prop} (hh : A.handled = none) (r : RL P v xs)
    (q : ∀ it p s', Itr B A P it xs.length (fun k v => xs[k]? = some v) p → Lgo B A P it p → St B P0 s0 P L m ((it, p 0) :: own) s' → Q (.ref it) s') : wpAny (mdl B) A (pyIter v) Q E s := by
  obtain ⟨l, o, rfl, p, i⟩ := r
  obtain ⟨n, e⟩ := id i
  refine wpAny_pyIter_list ⟨_, h.at p, by rw [e], n, by rw [e]⟩ (q _ _ _ (Itr.list hh p i) ?_ (h.new _ rfl ⟨rfl, rfl⟩))
  intro k P0 s0 P' L m own s E Q elts x1 tpos a l' h q
  obtain ⟨⟨oc, od, odt, osl⟩, ei, ci, di⟩ := h.head
  dsimp only at ci di
  subst ci di
  unfold letOwnedTupleGo
  refine wpAny_bind (wpAny_load ei ?_)
  dsimp only
  rw [if_neg (by simp)]
  exact wpAny_pure q
theorem forItrT {elts : List Expr} {x1 : Nat} {tpos : Pos} {body : List Stmt} {it : Addr} {n : Nat} {V : Nat → Value → Prop} {p : Nat → Obj → Prop} {Q : Flow → Shared → Prop} (hit : Itr B A P it n V p) (lg : Lgo B A P it p) (hV : ∀ k v, V k v → ∃ a, v = .ref a)
    (Inv : Nat → PM → List (Option Value) → List Own → Prop) (h0 : Inv 0 P vs own) (h : St B P0 s0 P L (asg ns vs) ((it, p 0) :: own) s)
    (turn : ∀ k P' vs' own' v s', k < n → V k v → P.le P' → Inv k P' vs' own' → St B P0 s0 P' L (asg ns vs') ((it, p (k + 1)) :: own') s' →
      wpAny (mdl B) A (assign (.Tuple elts x1 tpos) e v) (fun _ s₂ => wpAny (mdl B) A (execs body e) (Lp (Bt B P0 s0 P L ns it p Inv (k + 1)) Q) no s₂) no s')
    (fin : ∀ P' vs' own' s', P.le P' → Inv n P' vs' own' → St B P0 s0 P' L (asg ns vs') own' s' → Q .next s') :
    codeAny (mdl B) A (.forLoop (.Tuple elts x1 tpos) (.ref it) body [] e) (fun r s' => match r with | .ok f => Q f s' | .error x => cameBackBy (mdl B) A e E x s') s := by
  refine codeAny_forLoop_any (fun j s' => ∃ k, k ≤ n ∧ j = n - k ∧ Bt B P0 s0 P L ns it p Inv k s') ?_ n ⟨0, Nat.zero_le _, rfl, P, vs, own, PM.le.refl _, h0, h⟩
  rintro j s' ⟨k, hk, rfl, P', vs', own', l, inv, h'⟩
  rcases Nat.lt_or_ge k n with hlt | hge
  · refine hit.item hlt l h' fun v s₁ hv h₁ => ?_
    obtain ⟨a, rfl⟩ := hV k v hv
    refine lg elts x1 tpos a l h₁ ?_
    refine wpAny_noRaise (wpAny_mono (turn k P' vs' own' _ s₁ hlt hv l inv h₁) (fun _ s₂ h₂ => ?_) fun _ _ x => x)
    refine wpAny_noRaise (wpAny_mono h₂ (fun f s₃ h₃ => ?_) fun _ _ x => x)
    cases f with
    | next => exact ⟨n - (k + 1), by lia, k + 1, hlt, rfl, h₃⟩
    | cont => exact ⟨n - (k + 1), by lia, k + 1, hlt, rfl, h₃⟩
    | brk => exact h₃
    | ret v => exact h₃
  · obtain rfl : k = n := Nat.le_antisymm hk hge
    exact hit.done l h' fun s₁ h₁ => wpAny_execs_nil (fin P' vs' own' s₁ l inv h₁)
theorem filterMap_some {α β : Type} {f : α → Option β} {g : α → β} : ∀ (l : List α), (∀ x ∈ l, f x = some (g x)) → l.filterMap f = l.map g
  | [], _ => rfl
  | x :: l, h => by rw [List.filterMap_cons, h x (.head _), List.map_cons, filterMap_some l fun y hy => h y (.tail _ hy)]
theorem slicePick_rev (items : Array Value) : slicePick items none none (some (-1)) = items.toList.reverse.toArray := by
  unfold slicePick
  have eb : sliceBounds none none (some (-1)) items.size = ((items.size : Int) - 1, -1, -1) := by simp [sliceBounds]
  rw [eb]
  congr 1
  have er : sliceRange ((items.size : Int) - 1) (-1) (-1) = (List.range items.size).map fun k => items.size - 1 - k := by
    unfold sliceRange
    rcases Nat.eq_zero_or_pos items.size with h0 | h0
    · simp [h0]
    · have e1 : ¬ ((-1 : Int) > 0) := by decide
      have e2 : ((items.size : Int) - 1 > -1) := by lia
      simp only [e1, e2, if_true, if_false]
      have e3 : (((items.size : Int) - 1 - -1 - -1 - 1) / - -1).toNat = items.size := by
        have : ((items.size : Int) - 1 - -1 - -1 - 1) = items.size := by lia
        rw [this]; simp
      rw [e3]
      exact List.map_congr_left fun k hk => by have := List.mem_range.mp hk; lia
  show List.filterMap (fun x => items[x]?) (sliceRange ((items.size : Int) - 1) (-1) (-1)) = _
  rw [er, List.filterMap_map]
  apply List.ext_getElem?
  intro i
  rcases Nat.lt_or_ge i items.size with hi | hi
  · rw [List.getElem?_reverse (by simpa using hi)]
    have hall : List.filterMap ((fun x => items[x]?) ∘ fun k => items.size - 1 - k) (List.range items.size) = (List.range items.size).map fun k => items.getD (items.size - 1 - k) Value.none := by
      apply filterMap_some
      intro k hk
      have hk' := List.mem_range.mp hk
      have hlt : items.size - 1 - k < items.size := by lia
      simp [Array.getD, hlt]
    rw [hall, List.getElem?_map, List.getElem?_range hi]
    have hlt : items.size - 1 - i < items.size := by lia
    simp [Array.getD, hlt]
  · have hall : (List.filterMap ((fun x => items[x]?) ∘ fun k => items.size - 1 - k) (List.range items.size)).length ≤ items.size := Nat.le_trans (List.length_filterMap_le _ _) (by simp)
    rw [List.getElem?_eq_none (by lia), List.getElem?_eq_none (by simpa using hi)]
/-- x[a:b:c] of a list -/
theorem cutL {value slice : Expr} {v vl vu vk : Value} {lo hi st : Option Int} {xs : List Value} {Q : Value → Shared → Prop} (h : St B P0 s0 P L m own s) (r : RL P v xs) (pl : IsPart vl lo) (pu : IsPart vu hi) (pk : IsPart vk st) (h0 : st ≠ some 0) (hz : xs.length ≤ sizeLine)
    (q : ∀ a s', St B P0 s0 P L m ((a, isLst (slicePick xs.toArray lo hi st).toList) :: own) s' → Q (.ref a) s')
    (hs : ∀ a i, ∃ ops, subscripted slice false (.ref a) (.ref i) = operate ops (getItem (.ref a) (.ref i))) :
    wpAny (mdl B) A (subscriptTail value slice v (.ref s.heap.objs.size)) Q E { s with heap := s.heap.push { cls := .type "slice", data := .fields #[vl, vu, vk] } } := by
  have h' := h.push { cls := .type "slice", data := .fields #[vl, vu, vk] }
  obtain ⟨a, rfl, hl⟩ := h'.lst r
  obtain ⟨ops, hops⟩ := hs a s.heap.objs.size
  refine tail_any (s := { s with heap := s.heap.push { cls := .type "slice", data := .fields #[vl, vu, vk] } }) (Heap.IsList.typeIs hl) list_getitem_lookup (wpAny_getItem_list_slice hl (Heap.IsSliceOf.new ..) pl pu pk h0 ?_ (by simpa using hz)) hops
  exact q _ _ (h'.new _ rfl ⟨0, by simp⟩)
/-- list(x) of a list -/
theorem listL {v : Value} {xs : List Value} {Q : Value → Shared → Prop} (h : St B P0 s0 P L m own s) (r : RL P v xs) (hz : xs.length ≤ sizeLine) (q : ∀ a s', St B P0 s0 P L m ((a, isLst xs) :: own) s' → Q (.ref a) s') : wpAny (mdl B) A (call (.type "list") [v]) Q E s := by
  obtain ⟨l, o, rfl, p, n, rfl⟩ := r
  refine call_list_seq l (.inl rfl) (h.at p) rfl rfl (fun h' c' hk hn => ?_) (by simpa using hz)
  have fr := h.fresh
  exact q _ _ ((h.keep (s' := { s with heap := h' }) hk rfl h.wd.gb).add hn ⟨c', rfl⟩ fr)
/-- a lambda is made -/
theorem lamNew {params : Arguments} {body : Expr} {scope : Scope} {pos : Pos} {clos : List (Str × Addr)} {c : Addr} {Q : Value → Shared → Prop} (ok : Ok B) (h : St B P0 s0 P L m own s) (fe : FE e L ns) (hdef : defaultsOf params e = ([], [])) (hcl : closureFor scope e = pure clos)
    (hcode : e.code = .ref c) (hct : c ∉ tabs) (hcd : codeHdIn (hz.heap_157 B.w.params) c 154 = true) (hq : e.qual ++ "<lambda>" = qualOf 154)
    (q : ∀ P' f c' ctv pm s', P.le P' → P' f = some (kla_obj "<lambda>" (e.qual ++ "<lambda>") params body scope clos pm c' ctv) → PCode P' c' (qualOf 154) → f ∉ tabs → St B P0 s0 P' L m own s' → Q (.ref f) s') : wpAny (mdl B) A (eval (.Lambda params body scope pos) e) Q E s := by
  have C0 := h.wd.hd ok hcd hct
  obtain ⟨ps, et, tr, hc⟩ := h.wd.tb 154 (by simp)
  obtain ⟨bm, ob, b1, b2, b3, b4, b5, b6, b7⟩ := ok.bm
  have g0 := h.wd.nsb ok.g (by decide)
  have o0 := h.wd.base b4 b3
  have bne : bm ≠ mainGlobals := fun q => by
    obtain ⟨o, es, ep, x, r⟩ := ok.g
    rw [q, x] at b4; cases b4
    rw [b7] at r; cases r.1
  have hb : s.heap.BuiltinsAt B.mg 154 := ⟨bm, ob, b1, b2, bne, fun q => b3 (q ▸ by decide), o0, b5, b6, b7⟩
  have nn : ∀ {a : Addr}, s.heap.objs.size ≤ a → s.heap.get? a = none := fun {a} ha => by
    cases q : s.heap.get? a with
    | none => rfl
    | some o' => exact absurd (Heap.lt_size q) (Nat.not_lt.mpr ha)
  have nt : ∀ {a : Addr}, s.heap.objs.size ≤ a → a ∉ tabs := fun {a} ha ht => by
    obtain ⟨o', e⟩ := h.wd.tabAt ht
    rw [nn ha] at e; cases e
  refine kla_eval hdef ?_
  cases hca : codeAmong pos ps.toList with
  | some cv =>
    obtain ⟨a, rfl, pc⟩ := hc pos cv hca
    refine kla_makeFunctionHit (mg := B.mg) hcl fe.glb g0 hcode C0 et tr hca hb fun ctv h' tk hk hsz => ?_
    have hk' : ∀ b o, s.heap.get? b = some o → (h'.push { cls := .type "function", data := .func (kla_fn "<lambda>" (e.qual ++ "<lambda>") params body scope clos ((B.mg "__name__").getD .none) (.ref a) ctv) }).get? b = some o := fun b o e => Heap.get?_push_of_some _ (hk b o e)
    obtain ⟨h9, l9, x9⟩ := h.grow (s' := { s with heap := h'.push { cls := .type "function", data := .func (kla_fn "<lambda>" (e.qual ++ "<lambda>") params body scope clos ((B.mg "__name__").getD .none) (.ref a) ctv) }, toks := tk }) hk' rfl h.wd.gb
    exact q _ _ a ctv _ _ l9 (x9 _ _ (nn hsz) (Heap.get?_push_size _ rfl)) (pc.mono l9) (nt hsz) h9
  | none =>
    refine kla_makeFunction (mg := B.mg) hcl fe.glb g0 hcode C0 et tr hca (by decide) hb fun c' ctv h' tk hx hge hlt hrec htab => ?_
    have hsz : s.heap.objs.size ≤ h'.objs.size := Nat.le_trans hge (Nat.le_of_lt hlt)
    obtain ⟨c1, o1, v1, tt1, ec, eo, d1, d2⟩ := hrec
    cases ec
    have pc : ∀ hh : Heap, (∀ b o, h'.get? b = some o → hh.get? b = some o) → PCode (extP P s hh) c' (qualOf 154) := fun hh k => ⟨o1, v1, tt1, by simp only [extP, nn hge]; exact k _ _ eo, d1, hq ▸ d2⟩
    have kp : ∀ b o, h'.get? b = some o → (h'.push (kla_obj "<lambda>" (e.qual ++ "<lambda>") params body scope clos ((B.mg "__name__").getD .none) c' ctv)).get? b = some o := fun b o e => Heap.get?_push_of_some _ e
    obtain ⟨h9, l9, x9⟩ := h.growT (s' := { s with heap := h'.push (kla_obj "<lambda>" (e.qual ++ "<lambda>") params body scope clos ((B.mg "__name__").getD .none) c' ctv), toks := tk }) 154 (by simp) (fun b o hb e => kp _ _ (hx b o hb e)) ⟨_, kp _ _ htab, by simpa using TriplesOk_snoc _ _ _ _ tr, fun p cx e' => by
      have e'' : codeAmong p (ps.toList ++ [rawInt pos.line, rawInt pos.col, .ref c']) = some cx := by simpa using e'
      rcases TriplesOk.among_snoc _ tr e'' with q | q
      · obtain ⟨a, e1, e2⟩ := hc p cx q
        exact ⟨a, e1, e2.mono fun a o e => by simp only [extP, h.wd.fz a o e]; exact e⟩
      · subst q; exact ⟨c', rfl, pc _ kp⟩⟩ rfl h.wd.gb
    exact q _ _ c' ctv _ _ l9 (x9 _ _ (nn hsz) (Heap.get?_push_size _ rfl)) (pc _ kp) (nt hsz) h9
end
open PySem PySem.W PySem.W.X PyProof.Rows PySem.Calls
set_option Elab.async false
set_option maxRecDepth 100000
set_option maxHeartbeats 4000000
noncomputable def intCol (r : Row) (K : Int) : Int := if K = 0 then r.q.1 else if K = 1 then r.q.2.1 else if K = 2 then r.q.2.2.1 else if K = 3 then r.q.2.2.2 else r.i
noncomputable def strCol (r : Row) (K : Int) : Str := if K = 4 then r.a else if K = 6 then r.b else r.n
noncomputable def isS (K : Int) : Bool := decide (K = 4) || decide (K = 6) || decide (K = 7)
noncomputable def RKv (r : Row) (K : Int) (v : Value) : Prop := if isS K = true then ∃ t, v = .str (strCol r K) t else ∃ t, v = .int (intCol r K) t
noncomputable def colLt (K : Int) (a b : Row) : Bool := if isS K = true then decide ((strCol a K).cps.toList < (strCol b K).cps.toList) else decide (intCol a K < intCol b K)
theorem colAt {P : PM} {v : Value} {r : Row} {K : Int} (h0 : 0 ≤ K) (h8 : K < 8) (h : RRow P v r) : ∃ vals x, RT P v vals ∧ vals[K.toNat]? = some x ∧ RKv r K x := by
  obtain ⟨t1, t2, t3, t4, t5, t6, t7, t8, r⟩ := h
  have : K = 0 ∨ K = 1 ∨ K = 2 ∨ K = 3 ∨ K = 4 ∨ K = 5 ∨ K = 6 ∨ K = 7 := by lia
  rcases this with rfl | rfl | rfl | rfl | rfl | rfl | rfl | rfl
  · exact ⟨_, _, r, rfl, _, rfl⟩
  · exact ⟨_, _, r, rfl, _, rfl⟩
  · exact ⟨_, _, r, rfl, _, rfl⟩
  · exact ⟨_, _, r, rfl, _, rfl⟩
  · exact ⟨_, _, r, rfl, _, rfl⟩
  · exact ⟨_, _, r, rfl, _, rfl⟩
  · exact ⟨_, _, r, rfl, _, rfl⟩
  · exact ⟨_, _, r, rfl, _, rfl⟩
theorem swo_int : Swo (fun a b : Int => decide (a < b)) := ⟨fun a b h => by simp at h ⊢; lia, fun a b z h => by simp at h ⊢; lia⟩
theorem swo_list : Swo (fun a b : List Nat => decide (a < b)) where
  asym := fun a b h => by
    simp only [decide_eq_true_eq] at h
    simp only [decide_eq_false_iff_not]
    exact List.lt_asymm h
  neg := fun a b z h => by
    simp only [decide_eq_true_eq] at h ⊢
    by_cases ha : a < z
    · exact .inl ha
    · exact .inr (List.lt_of_le_of_lt (List.not_lt.mp ha) h)
theorem Swo.comap {α β : Type} {c : β → β → Bool} (w : Swo c) (f : α → β) : Swo (fun a b => c (f a) (f b)) := ⟨fun a b => w.asym _ _, fun a b z => w.neg _ _ _⟩
theorem Swo.flip {α : Type} {c : α → α → Bool} (w : Swo c) : Swo (fun a b => c b a) := ⟨fun a b => w.asym _ _, fun a b z h => (w.neg _ _ z h).symm⟩
theorem swo_col (K : Int) : Swo (colLt K) := by
  unfold colLt
  by_cases h : isS K = true
  · simp only [h, if_true]; exact swo_list.comap fun r => (strCol r K).cps.toList
  · simp only [h, if_false]; exact swo_int.comap fun r => intCol r K
noncomputable def row0 : Row := ⟨(0, 0, 0, 0), "", 0, "", ""⟩
noncomputable def rAt (rs : List Row) (i : Nat) : Row := rs.getD i row0
noncomputable def ordR (rs : List Row) : List (Int × Int) → Nat → Nat → Prop
  | [] => fun i j => i < j
  | k :: ks => if k.2 < 0 then Pr (fun i j => colLt k.1 (rAt rs j) (rAt rs i)) (ordR rs ks) else Pr (fun i j => colLt k.1 (rAt rs i) (rAt rs j)) (ordR rs ks)
section
variable {B : Bs} {P0 P P1 : PM} {s0 s : Shared} {L C : Addr} {m mC : Str → Option Value} {own own' : List Own} {A : Around} {E : Value → Shared → Prop} {e : Env} {ns : List Str} {vs vs' : List (Option Value)}
theorem keyLtCol {K : Int} {a b : Row} {x y : Value} {Q : Bool → Shared → Prop} (hx : RKv a K x) (hy : RKv b K y) (q : Q (colLt K a b) s) : wpAny (mdl B) A (keyLt' oneType' x y) Q E s := by
  unfold RKv at hx hy
  unfold colLt at q
  by_cases h : isS K = true
  · rw [if_pos h] at hx hy q
    obtain ⟨t, rfl⟩ := hx
    obtain ⟨u, rfl⟩ := hy
    exact kas_lt_str q
  · rw [if_neg h] at hx hy q
    obtain ⟨t, rfl⟩ := hx
    obtain ⟨u, rfl⟩ := hy
    exact kat_lt_int q
/-- a lambda of one name is called -/
theorem lamIn {f c' : Addr} {qn x : Str} {params : Arguments} {body : Expr} {scope : Scope} {clos : List (Str × Addr)} {pm ctv v : Value} {d u : Nat} {φ : PM → Value → Prop} (ok : Ok B) (wd : Wd B P s) (pf : P f = some (kla_obj "<lambda>" qn params body scope clos pm c' ctv)) (pc : PCode P c' qn)
    (hbind : bindArgs (kla_fn "<lambda>" qn params body scope clos pm (.ref c') ctv) ⟨[v], []⟩ = pure [(x, v)]) (hx : scope.names.lookup x = some .local) (hxd : (x == ("__debug__" : Str)) = false) (hco : scope.isCoroutine = false) (hgen : scope.isGenerator = false) (hk : scope.kind = .function) (hcell : ∀ y ∈ scope.names, y.2 ≠ .cell) (hroom : d < recursionLimit)
    (h : ∀ L s1, St B P s P L (asg [x] [some v]) [] s1 → FE (newEnv scope L mainGlobals clos (qn ++ ".<locals>.") (some f) (.ref c') none builtinsNs) L [x] →
      wpAny (mdl B) (AA (d + 1) (u + 3)) (eval body (newEnv scope L mainGlobals clos (qn ++ ".<locals>.") (some f) (.ref c') none builtinsNs)) (fun v s' => Out B P s φ v s') no s1) :
    Spec B (AA d u) (.ref f) [v] P s φ := by
  refine wpAny_call (kla_callFunE hroom (wd.fz f _ pf) rfl hco hgen rfl (pc.rec wd.fz) ?_)
  rw [hbind]
  refine wpAny_pure (wpAny_newFunctionEnv hcell (fun y hy => by simp at hy; subst hy; exact hx) (fun h₁ hns hsb => ⟨(wd.lim ok).fresh _ hsb, ?_⟩) hk)
  have kp : ∀ b o, s.heap.get? b = some o → h₁.get? b = some o := fun b o e => hsb.extBut b o (Nat.ne_of_lt (Heap.lt_size e)) (Heap.get?_push_of_some _ e)
  have st := St.start (t := s.toks + [(x, v)].length) wd hns kp
  refine kla_codeExpr (wpAny_mono (h s.heap.objs.size _ (st.cong fun y => ?_) ⟨rfl, hk, fun y hy => ?_, by simp, rfl, rfl⟩) (fun v s' o => o) fun _ _ x => x.elim)
  · show [(x, v)].reverse.lookup y = asg [x] [some v] y
    simp only [List.reverse_cons, List.reverse_nil, List.nil_append, List.lookup_cons, asg]
    by_cases hy : y = x
    · subst hy; simp
    · rw [if_neg hy, show (y == x) = false from beq_eq_false_iff_ne.mpr hy]; rfl
  · simp only [List.mem_singleton] at hy; subst hy; exact ⟨hx, hxd⟩
end
theorem mgn_sorted {B : Bs} (ok : Ok B) : B.mg "sorted" = none := mg_none_of ok.X ok.g (by kernel_rfl)
noncomputable def RSorted (P : PM) (v : Value) (rs : List Row) (R : Nat → Nat → Prop) : Prop := ∃ idx : List Nat, idx.Perm (List.range rs.length) ∧ idx.Pairwise R ∧ RLs RRow P v (idx.map (rAt rs))
theorem getD_perm {α : Type} {l : List α} {d : α} : (List.range l.length).map (fun i => l.getD i d) = l := by
  apply List.ext_getElem
  · simp
  · intro i h1 h2; simp at h1; simp [List.getD, h1]
theorem spec159 {B : Bs} {P : PM} {s : Shared} (ok : Ok B) (wd : Wd B P s) {v w : Value} {rs : List Row} {ks : List (Int × Int)} (h2 : 2 ≤ rs.length) (h6 : rs.length ≤ 36) (hks : ∀ k ∈ ks, 0 ≤ k.1 ∧ k.1 < 8) (hkl : ks.length ≤ 10) (rv : RLs RRow P v rs) (rw' : RKeys P w ks) :
    Spec B (AA 470 1970) (.ref 159) [v, w] P s (fun P' v => RSorted P' v rs (ordR rs ks)) := by
  refine enterC ok wd 159 21 158 ["rows", "keys"] ["ordered", "direction"] (fun n => [("index", n + 1)]) (fun p => by kernel_rfl) (fun p => by kernel_rfl) (fun p => by kernel_rfl) (fun p => by kernel_rfl) (fun p => by kernel_rfl) (fun p => ⟨⟨by kernel_rfl, by kernel_rfl⟩, by kernel_rfl, by kernel_rfl, by kernel_rfl, by kernel_rfl, by kernel_rfl⟩) (fun p n => by kernel_rfl) (fun p n => by kernel_rfl) (fun n => by kernel_rfl) (by kernel_rfl) (by kernel_rfl) rfl (by decide) ?_
  intro L s1 h fe ce
  dsimp only [List.cons_append, List.nil_append, List.map, celsOf] at h fe
  refine seq ?_
  obtain ⟨vx, rl, lr⟩ := id rv
  obtain ⟨kx, rk, lk⟩ := id rw'
  have len := lr.length
  walk_at "h"
  with_reducible refine wpAny_Assign_Name ?_ (by with_unfolding_all rfl)
  walk_at "h"
  refine Call_ ?_ (by with_unfolding_all rfl)
  refine ldb ok h fe (mgn_list ok) boot_list (by kernel_rfl) ?_
  with_reducible refine callT ?_ rfl rfl
  walk_at "h"
  with_reducible refine args_cons ?_ (by with_unfolding_all rfl)
  with_reducible refine ldv h fe (by walk_at "lk") ?_
  walk_at "h"
  with_reducible refine args_nil ?_
  refine listL h rl (by rw [len, sizeLine_eq]; lia) fun D s1 h => ?_
  obtain ⟨P1, o1, l1, e1, i1, h⟩ := h.freeze
  with_reducible refine stv h fe (by walk_at "up") fun s1 h => ?_
  walk_at "n"
  walk_at "h"
  with_reducible refine seq ?_
  walk_at "h"
  refine wpAny_For ?_
  walk_at "h"
  with_reducible refine Subscript_ ?_
  with_reducible refine ldv h fe (by walk_at "lk") ?_
  walk_at "h"
  with_reducible refine wpAny_Slice ?_
  with_reducible refine evalPart_none_step ?_
  with_reducible refine evalPart_none_step ?_
  with_reducible refine evalPart_some_step ?_
  walk_at "h"
  with_reducible refine UnaryOp_ ?_
  with_reducible refine kint h fun _ s1 h => ?_
  with_reducible refine negN h fun _ s1 h => ?_
  skip
  refine cutL h (rk.mono l1) .none .none (.int (-1) _) (by decide) (by rw [lk.length, sizeLine_eq]; lia) (fun kr s1 h => ?_) (fun a i => ⟨_, by with_unfolding_all rfl⟩)
  rw [slicePick_rev] at h
  obtain ⟨P2, o2, l2, e2, i2, h⟩ := h.freeze
  have rkr : RL P2 (.ref kr) kx.reverse := ⟨_, _, rfl, e2, by simpa using i2⟩
  have l02 := l1.trans l2
  refine iterLT (B := B) h rfl rkr fun it p s1 hit lg h => ?_
  have h := h
  refine forItrT (B := B) hit lg ?_ (fun k P' vs own => ∃ ci a Do idx ov, own = [(L + 1, isCel ci)] ∧ vs = [some v, some w, some (.ref Do), a] ∧ idx.Perm (List.range rs.length) ∧ idx.Pairwise (ordR rs (ks.drop (ks.length - k))) ∧ RL P' (.ref Do) ov ∧ LR (RRow P') ov (idx.map (rAt rs)))
    ⟨_, _, D, List.range rs.length, vx, rfl, rfl, List.Perm.refl _, ?_, ⟨_, _, rfl, l2 _ _ e1, i1⟩, ?_⟩ h ?_ ?_
  · intro k v hv
    rw [List.getElem?_reverse (by have := (List.getElem?_eq_some_iff.mp hv).1; simpa using this)] at hv
    obtain ⟨key, ek, tK, td, a, o, rfl, _⟩ := lk.at hv
    exact ⟨a, rfl⟩
  · rw [Nat.sub_zero, List.drop_length]; exact List.pairwise_lt_range
  · have : (List.range rs.length).map (rAt rs) = rs := getD_perm
    rw [this]; exact lr.mono fun _ _ y => RRow.mono l02 y
  · rintro k P' vs' own' x s1 hk hx l3 ⟨ci, a, Do, idx, ov, rfl, rfl, ip, iw, ro, lo⟩ h
    have hk' : k < ks.length := by rw [List.length_reverse, lk.length] at hk; exact hk
    rw [List.getElem?_reverse (by rw [lk.length]; exact hk'), lk.length] at hx
    obtain ⟨key, ek, tK, td, rkey⟩ := lk.at hx
    have rkey := rkey.mono (l02.trans l3)
    have hkey := hks key (List.mem_of_getElem? ek)
    have nx : ks.drop (ks.length - (k + 1)) = key :: ks.drop (ks.length - k) := by
      have e3 : ks.length - (k + 1) = ks.length - 1 - k := by lia
      obtain ⟨hlt, e5⟩ := List.getElem?_eq_some_iff.mp ek
      rw [e3, List.drop_eq_getElem_cons hlt, e5]
      congr 2; lia
    have il : idx.length = rs.length := by rw [ip.length_eq, List.length_range]
    have ol : ov.length = rs.length := by rw [lo.length, List.length_map, il]
    refine unpT (B := B) h rfl rkey rfl rfl fun s1 h => ?_
    refine asgMore (stcb h fe ce (by kernel_rfl) (by walk_at "own") (by walk_at "ow") fun s1 h => ?_)
    walk_at "h"
    with_reducible refine asgN h fe (by walk_at "up") fun s1 h => ?_
    with_reducible refine asg0 ?_
    walk_at "h"
    with_reducible refine seq ?_
    walk_at "h"
    with_reducible refine wpAny_Assign_Name ?_ (by with_unfolding_all rfl)
    walk_at "h"
    refine CallK ?_ (by with_unfolding_all rfl)
    refine ldb ok h fe (mgn_sorted ok) boot_sorted (by kernel_rfl) ?_
    with_reducible refine callWith_kw ?_ rfl rfl rfl rfl
    walk_at "h"
    with_reducible refine args_cons ?_ (by with_unfolding_all rfl)
    with_reducible refine ldv h fe (by walk_at "lk") ?_
    walk_at "h"
    with_reducible refine args_nil ?_
    refine kws_cons ?_
    refine lamNew (clos := [("index", L + 1)]) (c := 158) ok h fe (by with_unfolding_all rfl) (by with_unfolding_all rfl) (by kernel_rfl) (by decide) (by kernel_rfl) (by kernel_rfl) fun P3 f c' ctv pm s1 l4 pf pc hft h => ?_
    refine kws_cons ?_
    walk_at "h"
    with_reducible refine wpAny_Compare1 ?_ (by with_unfolding_all rfl)
    with_reducible refine ldv h fe (by walk_at "lk") ?_
    with_reducible refine kint h fun _ s1 h => ?_
    refine lt_int ?_
    refine kws_nil ?_
    have hI : (L + 1) ∉ tabs := (h.own (L + 1, isCel (some (.int key.1 tK))) (.tail _ (.head _))).2.2.2.2
    obtain ⟨gi, egi⟩ : ∃ g : Nat → Nat, g = fun i => idx.getD i 0 := ⟨_, rfl⟩
    refine sortedSt (f := .ref f) (T := if isS key.1 = true then .type "str" else .type "int") (b := decide (key.2 < 0)) (c := fun i j => colLt key.1 (rAt rs (gi i)) (rAt rs (gi j))) h (ro.mono l4) (by lia) (by lia) (fun l => ksk_s2 _ _ _) (fun x => ksk_l2 _ _ _) (fun x => ksk_t2 _ _ _)
      (fun P' k v => RKv (rAt rs (gi k)) key.1 v) (fun P P' k v l h => h) ?_ ?_ ?_ ?_ ((swo_col key.1).comap fun i => rAt rs (gi i)) ?_ ?_
    · intro k x P4 s4 hx l5 wd4 hown
      obtain ⟨rw4, erw, rr⟩ := lo.at hx
      have rr : RRow P4 x (rAt rs (gi k)) := by
        have e6 : (idx.map (rAt rs))[k]? = some (rAt rs (gi k)) := by
          obtain ⟨hlt, _⟩ := List.getElem?_eq_some_iff.mp hx
          rw [egi, List.getElem?_map, List.getElem?_eq_getElem (by lia)]
          simp [List.getD, show k < idx.length by lia]
        rw [e6] at erw; cases erw
        exact rr.mono (l4.trans l5)
      obtain ⟨oc, eoc, zc⟩ := hown (L + 1, isCel (some (.int key.1 tK))) (.tail _ (.head _))
      obtain ⟨vals, x9, rx9, ex9, hx9⟩ := colAt hkey.1 hkey.2 rr
      refine lamIn (x := "row") ok wd4 (l5 _ _ pf) (by have := pc.mono l5; rwa [show qualOf 154 = (envC B 159 L).qual ++ "<lambda>" from by kernel_rfl] at this) (by with_unfolding_all rfl) (by decide) (by decide) rfl rfl rfl (by decide) (by decide) fun L4 s5 h fe => ?_
      have h := h
      walk_at "h"
      with_reducible refine Subscript_ ?_
      with_reducible refine ldv h fe (by walk_at "lk") ?_
      refine wpAny_Name (wpAny_loadName_free (c := L + 1) (v := .int key.1 tK) rfl (by with_unfolding_all rfl) (by with_unfolding_all rfl) ⟨oc, h.kp _ _ eoc hI, zc⟩ ?_) (by decide)
      refine atT h rx9 hkey.1 (by lia) ex9 ?_ (by intros; with_unfolding_all rfl)
      exact h.out hx9
    · intro P4 k x own4 s4 l5 hx h4
      unfold RKv at hx
      by_cases hS : isS key.1 = true
      · rw [if_pos hS] at hx ⊢; obtain ⟨t, rfl⟩ := hx; exact Looks.of_pure rfl
      · rw [if_neg hS] at hx ⊢; obtain ⟨t, rfl⟩ := hx; exact Looks.of_pure rfl
    · split <;> decide
    · split <;> decide
    · intro i j P4 x y own4 s4 Q' hi hj l5 hx hy h4 hQ
      exact keyLtCol hx hy (hQ P4 s4 (PM.le.refl _) h4)
    · intro P4 D4 idx4 s4 l5 ip4 iw4 h
      obtain ⟨P5, o5, l6, e5, i5, h⟩ := h.freeze
      with_reducible refine stv h fe (by walk_at "up") fun s1 h => ?_
      walk_at "n"
      with_reducible refine seq0 ?_
      refine Lp.next ⟨P5, _, _, l3.trans (l4.trans (l5.trans l6)), ⟨_, _, D4, idx4.map gi, idx4.map fun i => ov.getD i Value.none, rfl, rfl, ?_, ?_, ⟨_, _, rfl, e5, i5⟩, ?_⟩, h⟩
      · have e7 : (List.range rs.length).map gi = idx := by rw [egi, ← il]; exact getD_perm
        rw [ol] at ip4
        refine (ip4.map gi).trans ?_
        rw [e7]; exact ip
      · have gpos : ∀ i j, i < j → j < idx.length → ordR rs (ks.drop (ks.length - k)) (gi i) (gi j) := fun i j hij hj => by
          have := (List.pairwise_iff_getElem.mp iw) i j (by lia) hj hij
          rw [egi]
          simpa [List.getD, show i < idx.length by lia, hj] using this
        rw [nx]
        rw [List.pairwise_map]
        refine iw4.imp_of_mem fun {x y} hx hy hxy => ?_
        have hx' := List.mem_range.mp (ip4.mem_iff.mp hx)
        have hy' := List.mem_range.mp (ip4.mem_iff.mp hy)
        show (if key.2 < 0 then _ else _ : Nat → Nat → Prop) (gi x) (gi y)
        by_cases hd : key.2 < 0
        · rw [if_pos hd]
          rw [if_pos (by simpa using hd)] at hxy
          rcases hxy with h1 | ⟨h1, h3⟩
          · exact .inl h1
          · exact .inr ⟨h1, gpos x y h3 (by lia)⟩
        · rw [if_neg hd]
          rw [if_neg (by simpa using hd)] at hxy
          rcases hxy with h1 | ⟨h1, h3⟩
          · exact .inl h1
          · exact .inr ⟨h1, gpos x y h3 (by lia)⟩
      · refine LR.of_at (by simp) fun n u r9 e8 e9 => ?_
        rw [List.getElem?_map] at e8
        obtain ⟨i, ei, rfl⟩ := Option.map_eq_some_iff.mp e8
        have hi := List.mem_range.mp (ip4.mem_iff.mp (List.mem_of_getElem? ei))
        rw [List.map_map, List.getElem?_map, ei] at e9
        cases e9
        have hov : ov[i]? = some (ov.getD i Value.none) := by simp [List.getD, hi]
        obtain ⟨r8, er8, rr8⟩ := lo.at hov
        have : r8 = rAt rs (gi i) := by
          rw [List.getElem?_map, List.getElem?_eq_getElem (show i < idx.length by lia)] at er8
          have := Option.some.inj er8
          rw [egi, ← this]; simp [List.getD, show i < idx.length by lia]
        subst this
        exact rr8.mono (l4.trans (l5.trans l6))
  · rintro P' vs' own' s1 l3 ⟨ci, a, Do, idx, ov, rfl, rfl, ip, iw, ro, lo⟩ h
    walk_at "n"
    with_reducible refine seq ?_
    walk_at "h"
    with_reducible refine wpAny_Return_some ?_
    with_reducible refine ldv h fe (by walk_at "lk") ?_
    with_reducible refine Nx.ret ?_
    rw [List.length_reverse, lk.length, Nat.sub_self, List.drop_zero] at iw
    exact h.out ⟨idx, ip, iw, _, ro, lo⟩
open PySem PySem.W PySem.W.X PyProof.Rows PySem.Calls
set_option Elab.async false
set_option maxRecDepth 100000
set_option maxHeartbeats 4000000
section
variable {B : Bs} {P0 P P1 : PM} {s0 s : Shared} {L C : Addr} {m mC : Str → Option Value} {own own' : List Own} {A : Around} {E : Value → Shared → Prop} {e : Env} {ns : List Str} {vs vs' : List (Option Value)} {kvs : List (Str × Value)}
theorem newDc (h : St B P0 s0 P L m own s) {Q : Value → Shared → Prop} {M : Model} (q : ∀ a s', St B P0 s0 P L m ((a, isDct B []) :: own) s' → Q (.ref a) s') : wpAny M A newDict Q E s := by
  unfold newDict
  exact wpAny_newObj_type (q _ _ (h.new _ rfl ⟨#[], 0, ⟨rfl, rfl, rfl⟩, rfl, fun _ he => by simp at he, .nil, .nil⟩))
/-- between the turns of a dict comprehension -/
inductive BtD (B : Bs) (P0 : PM) (s0 : Shared) (P : PM) (C : Addr) (ns' : List Str) (it D : Addr) (p : Nat → Obj → Prop) (rest : List Own) (Inv : Nat → PM → List (Str × Value) → Prop) (k : Nat) (s : Shared) : Prop
  | mk (P' : _) (vs : _) (ys : _) (x1 : P.le P') (x2 : Inv k P' ys) (x3 : (ys.length ≤ k ∧ vs.length = ns'.length)) (x4 : St B P0 s0 P' C (asg ns' vs) ((it, p k) :: (D, isDct B ys) :: rest) s)
noncomputable def TurnD (B : Bs) (P0 : PM) (s0 : Shared) (P : PM) (A : Around) (C : Addr) (ns' : List Str) (it D : Addr) (p : Nat → Obj → Prop) (rest : List Own) (Inv : Nat → PM → List (Str × Value) → Prop) (k : Nat) (kx vx : Expr) (cenv : Env) (ys : List (Str × Value)) (s : Shared) : Prop :=
  wpAny (mdl B) A (eval kx cenv) (fun kv s' => wpAny (mdl B) A (eval vx cenv) (fun vv s'' => ∃ P' vs x t, P.le P' ∧ vs.length = ns'.length ∧ kv = .str x t ∧ Inv (k + 1) P' (stored ys x vv) ∧ St B P0 s0 P' C (asg ns' vs) ((it, p (k + 1)) :: (D, isDct B ys) :: rest) s'') no s') no s
theorem dictSetD {D : Addr} {x : Str} {t : Tok} {v : Value} {Q : Unit → Shared → Prop} (h : St B P0 s0 P L m ((D, isDct B kvs) :: own) s) (hsz : kvs.length ≤ sizeLine) (q : ∀ s', St B P0 s0 P L m ((D, isDct B (stored kvs x v)) :: own) s' → Q () s') : wpAny (mdl B) A (dictSet D (.str x t) v) Q E s := by
  obtain ⟨o, p, i⟩ := h.head
  refine wpAny_dictSet_pairs (knd := skd B) (str_is x t) (i.dictOf p) (fun h' hd hs => ?_) hsz
  obtain ⟨o', p', i'⟩ := isDct.of hd
  exact q _ (h.chg0 hs.extBut p' i' _)
/-- an iterator together with the care for a tuple of its own -/
structure ItrG (B : Bs) (A : Around) (P : PM) (it : Addr) (n : Nat) (target : Expr) (V : Nat → PM → Value → Prop) (p : Nat → Obj → Prop) : Prop where
  item : ∀ {k : Nat} {P0 s0 P' L m own s E} {Q : Value → Shared → Prop}, k < n → P.le P' → St B P0 s0 P' L m ((it, p k) :: own) s → (∀ P'' v s', P'.le P'' → V k P'' v → St B P0 s0 P'' L m ((it, p (k + 1)) :: own) s' → Q v s') →
    wpAny (mdl B) A (pyNext (.ref it)) (fun r s₁ => ∃ v, r = some v ∧ wpAny (mdl B) A (letOwnedTupleGo target (.ref it) v) (fun _ s₂ => Q v s₂) E s₁) E s
  done : ∀ {P0 s0 P' L m own s E} {Q : Option Value → Shared → Prop}, P.le P' → St B P0 s0 P' L m ((it, p n) :: own) s → (∀ s', St B P0 s0 P' L m own s' → Q none s') → wpAny (mdl B) A (pyNext (.ref it)) Q E s
  self : Slf B A P it p
theorem Itr.g {it : Addr} {n : Nat} {V : Nat → Value → Prop} {p : Nat → Obj → Prop} (hit : Itr B A P it n V p) (sl : Slf B A P it p) (x : Str) (px : Pos) : ItrG B A P it n (.Name x px) (fun k _ v => V k v) p where
  item := fun hk l h q => hit.item hk l h fun v s' hv h' => ⟨v, rfl, wpAny_pure (q _ v s' (PM.le.refl _) hv h')⟩
  done := fun l h q => hit.done l h q
  self := sl
theorem compD_loop {kx vx target iter : Expr} {scope : Scope} {pos : Pos} {it D : Addr} {cenv : Env} {n : Nat} {V : Nat → PM → Value → Prop} {p : Nat → Obj → Prop} {rest : List Own} {ns' : List Str} {R : Result → Shared → Prop}
    (hit : ItrG B A P it n target V p) (hn : n ≤ sizeLine) (Inv : Nat → PM → List (Str × Value) → Prop) (h0 : Inv 0 P []) (hv0 : vs.length = ns'.length) (h : St B P0 s0 P C (asg ns' vs) ((it, p 0) :: (D, isDct B []) :: rest) s)
    (mono : ∀ k P P' ys, P.le P' → Inv k P ys → Inv k P' ys)
    (turn : ∀ k P' vs' ys v s', k < n → V k P' v → P.le P' → vs'.length = ns'.length → Inv k P' ys → St B P0 s0 P' C (asg ns' vs') ((it, p (k + 1)) :: (D, isDct B ys) :: rest) s' →
      wpAny (mdl B) A (assign target cenv v) (fun _ s₂ => TurnD B P0 s0 P A C ns' it D p rest Inv k kx vx cenv ys s₂) no s')
    (fin : ∀ P' vs' ys s', P.le P' → Inv n P' ys → St B P0 s0 P' C (asg ns' vs') ((D, isDct B ys) :: rest) s' → R (.ok .next) s') :
    codeAny (mdl B) A (.compStart (.DictComp kx vx [⟨target, iter, [], 0⟩] scope pos) 0 (.ref it) (.ref D) cenv) R s := by
  have loop : ∀ s, BtD B P0 s0 P C ns' it D p rest Inv 0 s → codeAny (mdl B) A (.compLoop (.DictComp kx vx [⟨target, iter, [], 0⟩] scope pos) 0 (.ref it) (.ref D) cenv) R s := by
    intro s hb
    refine codeAny_loop rfl (fun j s' => ∃ k, k ≤ n ∧ j = n - k ∧ BtD B P0 s0 P C ns' it D p rest Inv k s') ?_ n ⟨0, Nat.zero_le _, rfl, hb⟩
    rintro j s' ⟨k, hk, rfl, P', vs', ys, l, inv, ⟨hy, hvl⟩, h'⟩
    show wpAny _ A ((compTurn (.DictComp kx vx [⟨target, iter, [], 0⟩] scope pos) 0 (.ref it) (.ref D) cenv).onRaise (fun x => do noteFrame x cenv; theTreesLotGoes x)) _ _ s'
    refine wpAny_noted ?_
    rw [compTurn_dict]
    refine wpAny_bind (wpAny_standAt (wpAny_bind ?_))
    rcases Nat.lt_or_ge k n with hlt | hge
    · refine wpAny_mono (hit.item (Q := fun v s₂ => wpAny (mdl B) A (assign target cenv v) (fun _ s₂ => TurnD B P0 s0 P A C ns' it D p rest Inv k kx vx cenv ys s₂) no s₂) hlt l h' fun P'' v s₁ l2 hv h₁ => turn k P'' vs' ys v s₁ hlt hv (l.trans l2) hvl (mono _ _ _ _ l2 inv) h₁) (fun r s₁ hr => ?_) fun _ _ x => x
      obtain ⟨v, rfl, hr⟩ := hr
      refine wpAny_bind (wpAny_mono hr (fun _ s₂ h₂ => ?_) fun _ _ x => x)
      refine wpAny_bind (wpAny_noRaise (wpAny_mono h₂ (fun _ s₃ h₃ => ?_) fun _ _ x => x))
      refine wpAny_bind (wpAny_pure ?_)
      unfold TurnD at h₃
      refine wpAny_bind ?_
      refine wpAny_bind (wpAny_noRaise (wpAny_mono h₃ (fun kv s₄ h₄ => ?_) fun _ _ x => x))
      refine wpAny_bind (wpAny_holding (wpAny_noRaise (wpAny_mono h₄ (fun vv s₅ h₅ => ?_) fun _ _ x => x)))
      obtain ⟨P2, vs2, x, t, l2, v2, rfl, i2, g2⟩ := h₅
      refine wpAny_bind (wpAny_standAt (wpAny_holding ?_))
      refine dictSetD (B := B) g2.swap (by lia) fun s₆ g3 => wpAny_pure ⟨rfl, n - (k + 1), by lia, k + 1, hlt, rfl, P2, vs2, _, l2, i2, ⟨?_, v2⟩, g3.swap⟩
      have := stored_length_le ys x vv
      lia
    · obtain rfl : k = n := Nat.le_antisymm hk hge
      exact hit.done l h' fun s₁ h₁ => wpAny_pure (fin P' vs' ys s₁ l inv h₁)
  have b0 : BtD B P0 s0 P C ns' it D p rest Inv 0 s := ⟨P, vs, [], PM.le.refl _, h0, ⟨Nat.le_refl _, hv0⟩, h⟩
  exact codeAny_compStart_dict (loop s b0) (hit.self (PM.le.refl _) h (loop s b0))
theorem compD_body {kx vx target iter : Expr} {scope : Scope} {pos : Pos} {cl : List (Str × Addr)} {it : Addr} {n : Nat} {V : Nat → PM → Value → Prop} {p : Nat → Obj → Prop} {RR : Value → Addr → Result → Shared → Prop} (ns' : List Str) (h : St B P0 s0 P L m ((it, p 0) :: own) s)
    (hit : ItrG B A P it n target V p) (hn : n ≤ sizeLine) (hcell : ∀ x ∈ scope.names, x.2 ≠ .cell) (hk : scope.kind = .function) (fe : FE e L ns) (hl : (ns'.all fun x => decide (scope.names.lookup x = some .local) && !(x == ("__debug__" : Str))) = true) (nd : ns'.Nodup) (Inv : Nat → PM → List (Str × Value) → Prop) (h0 : Inv 0 P [])
    (mono : ∀ k P P' ys, P.le P' → Inv k P ys → Inv k P' ys)
    (turn : ∀ C D k P' vs' ys v s', FE (compEnvC scope cl C e) C ns' → k < n → V k P' v → P.le P' → vs'.length = ns'.length → Inv k P' ys → St B P0 s0 P' C (asg ns' vs') ((it, p (k + 1)) :: (D, isDct B ys) :: (L, isNs m) :: own) s' →
      wpAny (mdl B) A (assign target (compEnvC scope cl C e) v) (fun _ s₂ => TurnD B P0 s0 P A C ns' it D p ((L, isNs m) :: own) Inv k kx vx (compEnvC scope cl C e) ys s₂) no s')
    (fin : ∀ C D P' mC ys s', P.le P' → Inv n P' ys → St B P0 s0 P' C mC ((L, isNs m) :: (D, isDct B ys) :: own) s' → RR (.ref D) C (.ok .next) s') :
    wpAny (mdl B) A newDict (fun acc s₃ => wpAny (mdl B) A (newFunctionEnv scope e.globals cl [] e.qual none .none (some e)) (fun cenv s₄ =>
        codeAny (mdl B) A (.compStart (.DictComp kx vx [⟨target, iter, [], 0⟩] scope pos) 0 (.ref it) acc { cenv with scope := relabel scope e }) (RR acc cenv.locals) s₄) E s₃) E s := by
  refine newDc h fun D s1 h => ?_
  refine newNs ns' h hcell hk fun C s2 h => ?_
  refine compD_loop (ns' := ns') (rest := (L, isNs m) :: own) (cenv := compEnvC scope cl C e) hit hn Inv h0 (by simp) (h.turn.perm ?_) mono (fun k P' vs' ys v s' a b c d f g => turn C D k P' vs' ys v s' (feC fe hk hl nd) a b c d f g) (fun P' vs' ys s' a b g => fin C D P' _ ys s' a b g.swap)
  exact (List.Perm.swap ..).trans (((List.Perm.swap ..).cons _).trans (.swap ..))
theorem compD {kx vx target iter : Expr} {scope : Scope} {pos : Pos} {cl : List (Str × Addr)} {Q : Value → Shared → Prop} (hclos : closureFor scope e = pure cl) (hkind : scope.kind = .function) (hnames : ∀ x ∈ scope.names, x.2 = .local → scope.names.lookup x.1 = some .local)
    (hs : ∀ x, foldedSetIterable iter e x = pure x)
    (h : wpAny (mdl B) A (eval iter e) (fun x s₁ => wpAny (mdl B) A (pyIter x) (fun it s₂ => wpAny (mdl B) A newDict (fun acc s₃ => wpAny (mdl B) A (newFunctionEnv scope e.globals cl [] e.qual none .none (some e)) (fun cenv s₄ =>
        codeAny (mdl B) A (.compStart (.DictComp kx vx [⟨target, iter, [], 0⟩] scope pos) 0 it acc { cenv with scope := relabel scope e }) (compPost (mdl B) A E none Q acc cenv.locals) s₄) E s₃) E s₂) E s₁) E s) :
    wpAny (mdl B) A (eval (.DictComp kx vx [⟨target, iter, [], 0⟩] scope pos) e) Q E s := by
  rw [arm_eval_DictComp]
  exact wpAny_comprehension_free (use := none) rfl hs hclos hkind hnames h
/-- x.items(), iterated with a pair of names -/
theorem iterIG {r d : Addr} {Q : Value → Shared → Prop} (h : St B P0 s0 P L m ((r, isDV d) :: own) s) (hh : A.handled = none) (rd : RD B P (.ref d) kvs)
    (q : ∀ it p s', (∀ elts x1 tpos, ItrG B A P it kvs.length (.Tuple elts x1 tpos) (fun k P' v => ∃ x y t, kvs[k]? = some (x, y) ∧ RT P' v [.str x t, y]) p) → St B P0 s0 P L m ((it, p 0) :: own) s' → Q (.ref it) s') : wpAny (mdl B) A (pyIter (.ref r)) Q E s := by
  obtain ⟨d', o, e, hd, pd, i⟩ := rd
  cases e
  obtain ⟨o1, p1, rfl⟩ := h.head
  obtain ⟨es, ep, i1, i2, i3, i4, i5⟩ := id i
  have da : ∀ {P0 : PM} {s0 : Shared} {L : Addr} {P' : PM} {own' m' s'}, P.le P' → St B P0 s0 P' L m' own' s' → s'.heap.DictAt (skd B) d kvs ep := fun l' h' => ⟨o, es, h'.at (l' _ _ pd), i1, i2, i3, i4, i5⟩
  refine wpAny_pyIter_items (knd := skd B) ⟨_, p1, rfl, rfl⟩ (da (PM.le.refl _) h) (q _ (isII d kvs.length ep) _ (fun elts x1 tpos => ⟨?_, ?_, ?_⟩) (h.new _ rfl ⟨.none, .none, rfl⟩).swap.drop)
  · intro k P0 s0 P' L m own s E Q hlt l h' q
    obtain ⟨oi, pi, ok, ov, rfl⟩ := h'.head
    refine wpAny_pyNext_items_item (knd := skd B) (k := (kvs[k]).1) (v := (kvs[k]).2) pi (da l h') (by simp [hlt]) fun key hp hkey hout ht hz hkp => ?_
    obtain ⟨tk, rfl⟩ := is_str hkey
    have fr := h'.fresh
    have h3 := h'.chg0 (p' := fun o => o = _) (fun b o hb eb => hkp b o hb eb) hout rfl s.toks
    have h4 := (h3.add (a := s.heap.objs.size) (p := isTup [.str (kvs[k]).1 tk, (kvs[k]).2]) ht ⟨0, rfl⟩ ⟨fr.1, fr.2.1, fr.2.2.1, fr.2.2.2.1, fun q hq => by
      rcases List.mem_cons.mp hq with rfl | hq
      · exact fr.2.2.2.2 (_, isII d kvs.length ep k) (.head _)
      · exact fr.2.2.2.2 _ (.tail _ hq)⟩)
    obtain ⟨P'', o4, l4, e4, i4', h5⟩ := h4.freeze
    refine ⟨_, rfl, wpAny_letOwnedTupleGo_items hout fun hp' hit' hs' => ?_⟩
    exact q P'' _ _ l4 ⟨_, _, tk, by simp [hlt], _, o4, rfl, e4, i4'⟩ (h5.chg0 (p' := isII d kvs.length ep (k + 1)) hs'.extBut hit' ⟨_, _, rfl⟩ s.toks)
  · intro P0 s0 P' L m own s E Q l h' q
    obtain ⟨oi, pi, ok, ov, rfl⟩ := h'.head
    exact wpAny_pyNext_items_end (knd := skd B) hh pi (da l h') (by simp) fun hp he => q _ (h'.chgDrop he _)
  · intro k P0 s0 P' L m own s E Q l h' q
    obtain ⟨oi, pi, ok, ov, rfl⟩ := h'.head
    have hT : s.TypeIs (.ref _) "dict_itemiterator" := ⟨_, pi, rfl⟩
    refine wpAny_pyIter_slot hT PySem.F.slot_dict_itemiterator_iter (wpAny_call_entry PySem.F.slot_dict_itemiterator_iter hT kcp_entry ?_ (PySem.F.args_dict_itemiterator_iter_1 _))
    show wpAny _ _ (ret (.ref _)) _ _ s
    exact wpAny_pure ⟨_, rfl, "dict_itemiterator", _, hT, PySem.F.slot_dict_itemiterator_next.lookup, q⟩
end
open PySem PySem.W PySem.W.X PyProof.Rows PySem.Calls
set_option Elab.async false
set_option maxRecDepth 100000
set_option maxHeartbeats 4000000
theorem mg100 {B : Bs} (ok : Ok B) : B.mg "_law_words" = some (.ref 100) := mg_of ok.X ok.g (by kernel_rfl)
theorem mg107 {B : Bs} (ok : Ok B) : B.mg "_law_calls" = some (.ref 107) := mg_of ok.X ok.g (by kernel_rfl)
theorem mg128 {B : Bs} (ok : Ok B) : B.mg "_law_run" = some (.ref 128) := mg_of ok.X ok.g (by kernel_rfl)
theorem mg135 {B : Bs} (ok : Ok B) : B.mg "_law_add" = some (.ref 135) := mg_of ok.X ok.g (by kernel_rfl)
section
variable {B : Bs} {P0 P P1 : PM} {s0 s : Shared} {L C : Addr} {m mC : Str → Option Value} {own own' : List Own} {A : Around} {E : Value → Shared → Prop} {e : Env} {ns : List Str} {vs vs' : List (Option Value)}
/-- list + list -/
theorem addL {a b : Value} {xs ys : List Value} {Q : Value → Shared → Prop} (h : St B P0 s0 P L m own s) (ra : RL P a xs) (rb : RL P b ys) (hsz : xs.length + ys.length ≤ sizeLine)
    (q : ∀ D s', St B P0 s0 P L m ((D, isLst (xs ++ ys)) :: own) s' → Q (.ref D) s') : wpAny (mdl B) A (binaryOp .Add a b) Q E s := by
  obtain ⟨x, o1, rfl, p1, n1, rfl⟩ := ra
  obtain ⟨y, o2, rfl, p2, n2, rfl⟩ := rb
  exact PySem.P.add_list (items := xs.toArray) (items2 := ys.toArray) (h.at p1) (h.at p2) (q _ _ (h.new _ rfl ⟨0, by simp⟩)) (by simpa using hsz)
end
theorem LR.of_ints {P : PM} {vs : List Value} {is : List Int} (h : IntsAre vs is) : LR (RI P) vs is := by
  induction h with
  | nil => exact .nil
  | cons i t _ ih => exact .cons ⟨t, rfl⟩ ih
theorem words_len : ∀ w ∈ words, w.length ≤ 3 ∧ ∀ k ∈ w, 0 ≤ k.1 ∧ k.1 < 8 := by decide
theorem wordAt_mem (n : Int) : wordAt n = [] ∨ wordAt n ∈ words := by
  unfold wordAt
  cases h : words[(n.fmod 9).toNat]? with
  | none => exact .inl rfl
  | some w => exact .inr (List.mem_of_getElem? h)
theorem wordAt_len (n : Int) : (wordAt n).length ≤ 3 := by
  rcases wordAt_mem n with h | h
  · rw [h]; simp
  · exact (words_len _ h).1
noncomputable def numsOf (xs : List Int) : List Int := xs.take 7 ++ [1660, 358, 948]
noncomputable def pickOf (xs : List Int) : Int := ((numsOf xs).map fun x => x.fmod 1009).sum
noncomputable def shortOf (xs : List Int) : Bool := (pickOf xs).fmod 2 == 0
noncomputable def keysOf (xs : List Int) : List (Int × Int) := wordAt ((pickOf xs).fdiv 2) ++ wordAt ((pickOf xs).fdiv 18)
noncomputable def callsOf (xs : List Int) : List Cl := (numsOf xs).map callOf
theorem numsOf_len (xs : List Int) : (numsOf xs).length ≤ 10 := by
  unfold numsOf
  rw [List.length_append, List.length_take]
  show min 7 xs.length + 3 ≤ 10
  have := Nat.min_le_left 7 xs.length
  lia
theorem lawA {B : Bs} {P : PM} {s s1 : Shared} {L : Addr} {Q : Flow → Shared → Prop} (ok : Ok B) {v : Value} {xs : List Int} (hx : xs.length ≤ 63) (r : RLs RI P v xs)
    (fe : FE (envC B 164 L) L ["script", "numbers", "pick", "keys", "runs", "back", "told", "due"]) (ce : CE (envC B 164 L) [("heads", L + 1 + 1 + 1 + 1), ("table", L + 1 + 1 + 1), ("calls", L + 1 + 1), ("short", L + 1)])
    (h : St B P s P L (asg ["script", "numbers", "pick", "keys", "runs", "back", "told", "due"] [some v, none, none, none, none, none, none, none]) [(L + 1 + 1 + 1 + 1, isCel none), (L + 1 + 1 + 1, isCel none), (L + 1 + 1, isCel none), (L + 1, isCel none)] s1)
    (next : ∀ P1 s2 vn vp vk vc, P.le P1 → RKeys P1 vk (keysOf xs) → RLs RCl P1 vc (callsOf xs) → St B P s P1 L (asg ["script", "numbers", "pick", "keys", "runs", "back", "told", "due"] [some v, some vn, some vp, some vk, none, none, none, none]) [(L + 1 + 1 + 1 + 1, isCel none), (L + 1 + 1 + 1, isCel none), (L + 1 + 1, isCel (some vc)), (L + 1, isCel (some (.bool (shortOf xs))))] s2 →
      wpAny (mdl B) (AA 461 1963) (execs ((bodyAt 22).drop 5) (envC B 164 L)) Q no s2) :
    wpAny (mdl B) (AA 461 1963) (execs (bodyAt 22) (envC B 164 L)) Q no s1 := by
  obtain ⟨vx, rl, lr⟩ := id r
  have nlen := numsOf_len xs
  refine seq ?_
  walk_at "h"
  with_reducible refine wpAny_Assign_Name ?_ (by with_unfolding_all rfl)
  walk_at "h"
  with_reducible refine wpAny_BinOp ?_
  walk_at "h"
  with_reducible refine Subscript_ ?_
  with_reducible refine ldv h fe (by walk_at "lk") ?_
  walk_at "h"
  with_reducible refine wpAny_Slice ?_
  with_reducible refine evalPart_none_step ?_
  with_reducible refine evalPart_some_step ?_
  with_reducible refine kint h fun _ s1 h => ?_
  with_reducible refine evalPart_none_step ?_
  refine cutL (lo := none) (hi := some 7) (st := none) h rl .none (.int ..) .none (by simp) (by rw [lr.length, sizeLine_eq]; lia) (fun a s1 h => ?_) (fun a i => ⟨_, by with_unfolding_all rfl⟩)
  have i1 := kmk_upto lr.ints (y := 7) (by decide)
  obtain ⟨P1, o1, l1, e1, j1, h⟩ := h.freeze
  walk_at "h"
  with_reducible refine List_ ?_
  walk_at "h"
  with_reducible refine args_cons ?_ (by with_unfolding_all rfl)
  with_reducible refine kint h fun _ s1 h => ?_
  walk_at "h"
  with_reducible refine args_cons ?_ (by with_unfolding_all rfl)
  with_reducible refine kint h fun _ s1 h => ?_
  walk_at "h"
  with_reducible refine args_cons ?_ (by with_unfolding_all rfl)
  with_reducible refine kint h fun _ s1 h => ?_
  walk_at "h"
  with_reducible refine args_nil ?_
  refine newLst h (fun b s1 h => ?_) (by rw [sizeLine_eq]; simp)
  obtain ⟨P2, o2, l2, e2, j2, h⟩ := h.freeze
  refine addL h ⟨_, _, rfl, l2 _ _ e1, j1⟩ ⟨_, _, rfl, e2, j2⟩ (by rw [i1.length, sizeLine_eq]; simp; lia) fun D s1 h => ?_
  obtain ⟨P3, o3, l3, e3, j3, h⟩ := h.freeze
  have rn : RLs RI P3 (.ref D) (numsOf xs) := ⟨_, ⟨_, _, rfl, e3, j3⟩, (LR.of_ints i1).append (.cons ⟨_, rfl⟩ (.cons ⟨_, rfl⟩ (.cons ⟨_, rfl⟩ .nil)))⟩
  obtain ⟨vn, rln, lrn⟩ := id rn
  have len := lrn.length
  have l03 := l1.trans (l2.trans l3)
  with_reducible refine stv h fe (by walk_at "up") fun s1 h => ?_
  walk_at "n"
  with_reducible refine seq ?_
  walk_at "h"
  with_reducible refine wpAny_Assign_Name ?_ (by with_unfolding_all rfl)
  walk_at "h"
  refine Call_ ?_ (by with_unfolding_all rfl)
  refine ldb ok h fe (mgn_sum ok) boot_sum (by kernel_rfl) ?_
  with_reducible refine callB ?_ rfl rfl
  refine args_cons ?_
  refine compL (cl := []) (by with_unfolding_all rfl) rfl (by decide) (by intro _; with_unfolding_all rfl) ?_
  with_reducible refine ldv h fe (by walk_at "lk") ?_
  refine iterL2 h rfl rln fun it p s1 hit sl h => ?_
  refine compL_body ["x"] h hit sl (by rw [len, sizeLine_eq]; lia) (by decide) rfl fe (by decide) (by decide) (fun k P' ys => LR (RI P') ys (((numsOf xs).take k).map fun x => x.fmod 1009)) .nil ?_ ?_
  · rintro C D k P' vs' ys x s1 fe hk hv l1 hl inv h
    obtain ⟨a, rfl⟩ := len1 hl
    obtain ⟨c, ec, t, rfl⟩ := lrn.at hv
    with_reducible refine stb h fe (by walk_at "up") fun s1 h => ?_
    refine wpAny_tests_nil ?_
    unfold TurnL
    first | walk_at "n" | rw [if_pos rfl]
    walk_at "h"
    with_reducible refine wpAny_BinOp ?_
    with_reducible refine ldv h fe (by walk_at "lk") ?_
    with_reducible refine kint h fun _ s1 h => ?_
    first | (with_reducible refine modN h (by decide) fun _ s1 h => ?_) | (with_reducible refine fdivN h (by decide) (by decide) fun _ s1 h => ?_)
    refine ⟨P', _, l1, rfl, ?_, h⟩
    show LR (RI P') _ (((numsOf xs).take (k + 1)).map _)
    rw [take_map_succ _ ec]
    exact inv.snoc ⟨_, rfl⟩
  · rintro C D4 P' mC ys s1 l4 inv hy h
    refine compEnd h fun s1 h => ?_
    obtain ⟨P5, o5, l5, e5, i5, h⟩ := h.freeze
    walk_at "h"
    with_reducible refine args_nil ?_
    rw [len, List.take_length] at inv
    obtain ⟨f1, f2⟩ := sums_fit (is := (numsOf xs).map fun x => x.fmod 1009) (by rw [List.length_map]; lia) fun i hi => by
      obtain ⟨c, hm, rfl⟩ := List.mem_map.mp hi
      have := Int.fmod_nonneg_of_pos c (b := 1009) (by decide)
      have := Int.fmod_lt_of_pos c (b := 1009) (by decide)
      lia
    refine sumL h rfl ⟨_, _, rfl, e5, i5⟩ inv f1 f2 fun tp s1 h => ?_
    have l35 := l4.trans l5
    with_reducible refine stv h fe (by walk_at "up") fun s1 h => ?_
    walk_at "n"
    with_reducible refine seq ?_
    walk_at "h"
    with_reducible refine wpAny_Assign_Name ?_ (by with_unfolding_all rfl)
    walk_at "h"
    with_reducible refine wpAny_Compare1 ?_ (by with_unfolding_all rfl)
    walk_at "h"
    with_reducible refine wpAny_BinOp ?_
    with_reducible refine ldv h fe (by walk_at "lk") ?_
    with_reducible refine kint h fun _ s1 h => ?_
    first | (with_reducible refine modN h (by decide) fun _ s1 h => ?_) | (with_reducible refine fdivN h (by decide) (by decide) fun _ s1 h => ?_)
    with_reducible refine kint h fun _ s1 h => ?_
    refine eq_int ?_
    refine stc h fe ce (by kernel_rfl) (by walk_at "own") (by walk_at "ow") fun s1 h => ?_
    walk_at "n"
    with_reducible refine seq ?_
    walk_at "h"
    with_reducible refine wpAny_Assign_Name ?_ (by with_unfolding_all rfl)
    walk_at "h"
    with_reducible refine wpAny_BinOp ?_
    walk_at "h"
    refine callG ok h fe (mg100 ok) (by kernel_rfl) (by decide) (by with_unfolding_all rfl) (by with_unfolding_all rfl) (by with_unfolding_all rfl) ?_
    walk_at "h"
    with_reducible refine args_cons ?_ (by with_unfolding_all rfl)
    walk_at "h"
    with_reducible refine wpAny_BinOp ?_
    with_reducible refine ldv h fe (by walk_at "lk") ?_
    with_reducible refine kint h fun _ s1 h => ?_
    first | (with_reducible refine modN h (by decide) fun _ s1 h => ?_) | (with_reducible refine fdivN h (by decide) (by decide) fun _ s1 h => ?_)
    walk_at "h"
    with_reducible refine args_nil ?_
    refine ⟨h.fn ok (by kernel_rfl), ?_⟩
    refine callS h ((spec100 ok h.wd).room (by decide) (by decide)) fun P6 v6 s1 l6 hv6 h => ?_
    walk_at "h"
    refine callG ok h fe (mg100 ok) (by kernel_rfl) (by decide) (by with_unfolding_all rfl) (by with_unfolding_all rfl) (by with_unfolding_all rfl) ?_
    walk_at "h"
    with_reducible refine args_cons ?_ (by with_unfolding_all rfl)
    walk_at "h"
    with_reducible refine wpAny_BinOp ?_
    with_reducible refine ldv h fe (by walk_at "lk") ?_
    with_reducible refine kint h fun _ s1 h => ?_
    first | (with_reducible refine modN h (by decide) fun _ s1 h => ?_) | (with_reducible refine fdivN h (by decide) (by decide) fun _ s1 h => ?_)
    walk_at "h"
    with_reducible refine args_nil ?_
    refine ⟨h.fn ok (by kernel_rfl), ?_⟩
    refine callS h ((spec100 ok h.wd).room (by decide) (by decide)) fun P7 v7 s1 l7 hv7 h => ?_
    obtain ⟨w6, r6, lr6⟩ := hv6
    obtain ⟨w7, r7, lr7⟩ := hv7
    refine addL h (r6.mono l7) r7 (by rw [lr6.length, lr7.length, sizeLine_eq]; have := wordAt_len ((pickOf xs).fdiv 2); have := wordAt_len ((pickOf xs).fdiv 18); unfold pickOf at *; lia) fun D8 s1 h => ?_
    obtain ⟨P8, o8, l8, e8, j8, h⟩ := h.freeze
    have l38 := l35.trans (l6.trans (l7.trans l8))
    with_reducible refine stv h fe (by walk_at "up") fun s1 h => ?_
    walk_at "n"
    with_reducible refine seq ?_
    walk_at "h"
    with_reducible refine wpAny_Assign_Name ?_ (by with_unfolding_all rfl)
    walk_at "h"
    refine callG ok h fe (mg107 ok) (by kernel_rfl) (by decide) (by with_unfolding_all rfl) (by with_unfolding_all rfl) (by with_unfolding_all rfl) ?_
    walk_at "h"
    with_reducible refine args_cons ?_ (by with_unfolding_all rfl)
    with_reducible refine ldv h fe (by walk_at "lk") ?_
    walk_at "h"
    with_reducible refine args_nil ?_
    refine ⟨h.fn ok (by kernel_rfl), ?_⟩
    refine callS h ((spec107 ok h.wd nlen (RLs.mono (R := RI) (fun _ _ _ _ _ h => h) l38 rn)).room (by decide) (by decide)) fun P9 v9 s1 l9 hv9 h => ?_
    refine stc h fe ce (by kernel_rfl) (by walk_at "own") (by walk_at "ow") fun s1 h => ?_
    refine Nx.next (next P9 _ _ _ _ _ (l03.trans (l38.trans l9)) ?_ hv9 h)
    exact RKeys.mono l9 ⟨_, ⟨_, _, rfl, e8, j8⟩, ((lr6.mono fun _ _ y => RKey.mono l7 y).append lr7).mono fun _ _ y => RKey.mono l8 y⟩
theorem ceC {e : Env} {cl : List (Str × Addr)} (hc : e.cells = cl) (hk : ((cl.map (·.1)).all fun x => decide (e.kindOf x = some .cell) && !(x == ("__debug__" : Str))) = true) (nd : decide (cl.map (·.1)).Nodup = true) : CE e cl := ⟨fun y c hy => by
  have := List.all_eq_true.mp hk y (List.mem_map.mpr ⟨_, hy, rfl⟩)
  simp only [Bool.and_eq_true, decide_eq_true_eq] at this
  exact ⟨.inl this.1, by rw [hc]; exact lookup_nodup (of_decide_eq_true nd) _ hy, by simpa using this.2⟩⟩
noncomputable def runAt (cs : List Cl) (r : Nat) : Table := enterAll [] (pairsOf cs (r : Int))
noncomputable def runsOf (cs : List Cl) : List Table := (List.range 3).map (runAt cs)
noncomputable def addAll (Ts : List Table) : Table := Ts.foldl enterAll []
theorem addAll_succ {Ts : List Table} {k : Nat} {T : Table} (e : Ts[k]? = some T) : addAll (Ts.take (k + 1)) = enterAll (addAll (Ts.take k)) T := by
  unfold addAll
  rw [List.take_add_one, e, List.foldl_append]; rfl
/-- reduce(_law_add, tables, {}) -/
theorem reduceAdd {B : Bs} {P : PM} {s : Shared} {sh : Bool} (ok : Ok B) (wd : Wd B P s) {sq t : Value} {Ts : List Table} {d u : Nat} (hd : d + 1 ≤ 470) (hu : u + 3 ≤ 1970) (rs : RLs (RTb B sh) P sq Ts) (rt : RTb B sh P t []) :
    Spec B (AA d u) (.ref 86) [.ref 135, sq, t] P s (fun P' v => RTb B sh P' v (addAll Ts)) := by
  obtain ⟨vs, rl, lr⟩ := rs
  obtain ⟨kt, ⟨a, o, rfl, hs, pa, ia⟩, dt, mt⟩ := id rt
  have c0 : o.cls = .type "dict" := by obtain ⟨_, _, x, _⟩ := ia; exact x.1
  refine (spec86 ok wd (Nat.lt_of_lt_of_le (Nat.lt_of_succ_le hd) (by decide)) (fun p => by kernel_rfl) (by decide) rl pa c0 (fun k P' v => RTb B sh P' v (addAll (Ts.take k))) rt (fun k P P' v l h => h.mono l) ?_).mono fun P' v h => ?_
  · intro k x P' s' v hx l h wd'
    obtain ⟨T, ep, rp⟩ := lr.at hx
    rw [addAll_succ ep]
    exact (spec135 ok wd' h (rp.mono l)).room hd hu
  · rwa [lr.length, List.take_length] at h
theorem RTbs.mono {B : Bs} {sh : Bool} {P P' : PM} (l : P.le P') {v : Value} {Ts : List Table} (h : RLs (RTb B sh) P v Ts) : RLs (RTb B sh) P' v Ts := RLs.mono (R := RTb B sh) (fun _ _ _ _ l h => RTb.mono l h) l h
theorem LR.reverse {α : Type} {R : Value → α → Prop} {vs : List Value} {as : List α} (h : LR R vs as) : LR R vs.reverse as.reverse := by
  induction h with
  | nil => exact .nil
  | cons a _ ih => rw [List.reverse_cons, List.reverse_cons]; exact ih.snoc a
theorem lawB {B : Bs} {P0 P : PM} {s s1 : Shared} {L : Addr} {Q : Flow → Shared → Prop} {sh : Bool} (ok : Ok B) {v vn vp vk vc : Value} {cs : List Cl} (hl : cs.length ≤ 10) (hc : ∀ c ∈ cs, c.ok) (r : RLs RCl P vc cs)
    (fe : FE (envC B 164 L) L ["script", "numbers", "pick", "keys", "runs", "back", "told", "due"]) (ce : CE (envC B 164 L) [("heads", L + 1 + 1 + 1 + 1), ("table", L + 1 + 1 + 1), ("calls", L + 1 + 1), ("short", L + 1)])
    (h : St B P0 s P L (asg ["script", "numbers", "pick", "keys", "runs", "back", "told", "due"] [some v, some vn, some vp, some vk, none, none, none, none]) [(L + 1 + 1 + 1 + 1, isCel none), (L + 1 + 1 + 1, isCel none), (L + 1 + 1, isCel (some vc)), (L + 1, isCel (some (.bool sh)))] s1)
    (next : ∀ P1 s2 vr vt vb, P.le P1 → RTb B sh P1 vt (addAll (runsOf cs)) → RTb B sh P1 vb (addAll (runsOf cs).reverse) → St B P0 s P1 L (asg ["script", "numbers", "pick", "keys", "runs", "back", "told", "due"] [some v, some vn, some vp, some vk, some vr, some vb, none, none]) [(L + 1 + 1 + 1 + 1, isCel none), (L + 1 + 1 + 1, isCel (some vt)), (L + 1 + 1, isCel (some vc)), (L + 1, isCel (some (.bool sh)))] s2 →
      wpAny (mdl B) (AA 461 1963) (execs ((bodyAt 22).drop 8) (envC B 164 L)) Q no s2) :
    wpAny (mdl B) (AA 461 1963) (execs ((bodyAt 22).drop 5) (envC B 164 L)) Q no s1 := by
  refine seq ?_
  refine compLS (cl := [("short", L + 1), ("calls", L + 1 + 1)]) (by with_unfolding_all rfl) (by with_unfolding_all rfl) rfl (by decide) (by intro _; with_unfolding_all rfl) ?_
  refine Call_ ?_ (by with_unfolding_all rfl)
  refine ldb ok h fe (mgn_range ok) boot_range (by kernel_rfl) ?_
  with_reducible refine callT ?_ rfl rfl
  walk_at "h"
  with_reducible refine args_cons ?_ (by with_unfolding_all rfl)
  with_reducible refine kint h fun _ s1 h => ?_
  walk_at "h"
  with_reducible refine args_nil ?_
  refine rngNew h fun rg s1 h => ?_
  refine rngIter (n := 3) rfl h (by decide) fun it p s1 hit sl h => ?_
  refine compL_body ["run"] h hit sl (by rw [sizeLine_eq]; lia) (by decide) rfl fe (by decide) (by decide) (fun k P' ys => LR (RTb B sh P') ys ((List.range k).map (runAt cs))) .nil ?_ ?_
  · rintro C D k P' vs' ys x s1 fe2 hk ⟨tk, rfl⟩ l1 hl2 inv h
    obtain ⟨a, rfl⟩ := len1 hl2
    have fe := fe2
    with_reducible refine stb h fe (by walk_at "up") fun s1 h => ?_
    refine wpAny_tests_nil ?_
    unfold TurnL
    first | walk_at "n" | rw [if_pos rfl]
    refine callG ok h fe (mg128 ok) (by kernel_rfl) (by decide) (by with_unfolding_all rfl) (by with_unfolding_all rfl) (by with_unfolding_all rfl) ?_
    refine args_cons ?_
    refine ldc (cs := [("short", L + 1), ("calls", L + 1 + 1)]) (c := L + 1 + 1) (v := vc) h fe (ceC (by kernel_rfl) (by kernel_rfl) (by kernel_rfl)) (by walk_at "own") (by walk_at "own") ?_
    walk_at "h"
    with_reducible refine args_cons ?_ (by with_unfolding_all rfl)
    with_reducible refine ldv h fe (by walk_at "lk") ?_
    walk_at "h"
    with_reducible refine args_cons ?_ (by with_unfolding_all rfl)
    refine ldc (cs := [("short", L + 1), ("calls", L + 1 + 1)]) (c := L + 1) (v := .bool sh) h fe (ceC (by kernel_rfl) (by kernel_rfl) (by kernel_rfl)) (by walk_at "own") (by walk_at "own") ?_
    walk_at "h"
    with_reducible refine args_nil ?_
    refine ⟨h.fn ok (by kernel_rfl), ?_⟩
    refine callS h ((spec128 (sh := sh) (cs := cs) ok h.wd hl hc (RCls.mono l1 r)).room (by decide) (by decide)) fun P4 v4 s1 l4 re h => ?_
    refine ⟨P4, _, l1.trans l4, rfl, ?_, h⟩
    show LR (RTb B sh P4) _ ((List.range (k + 1)).map _)
    rw [List.range_succ, List.map_append]
    exact (inv.mono fun _ _ y => RTb.mono l4 y).snoc re
  · rintro C D P1 mC ys s1 l1 inv hy h
    refine compEndS h fe (by walk_at "up") fun s1 h => ?_
    obtain ⟨P2, o2, l2, e2, i2, h⟩ := h.freeze
    have rr : RLs (RTb B sh) P2 (.ref D) (runsOf cs) := ⟨_, ⟨_, _, rfl, e2, i2⟩, inv.mono fun _ _ y => RTb.mono l2 y⟩
    walk_at "n"
    with_reducible refine seq ?_
    walk_at "h"
    with_reducible refine wpAny_Assign_Name ?_ (by with_unfolding_all rfl)
    walk_at "h"
    refine callG ok h fe (mg86 ok) (by kernel_rfl) (by decide) (by with_unfolding_all rfl) (by with_unfolding_all rfl) (by with_unfolding_all rfl) ?_
    refine args_cons (ldg ok h fe (mg135 ok) (by kernel_rfl) ?_)
    walk_at "h"
    with_reducible refine args_cons ?_ (by with_unfolding_all rfl)
    with_reducible refine ldv h fe (by walk_at "lk") ?_
    walk_at "h"
    with_reducible refine args_cons ?_ (by with_unfolding_all rfl)
    walk_at "h"
    refine newD h fun dd s1 h => ?_
    have n1 := h.ne1 ok (.head _)
    obtain ⟨P3, o3, l3, e3, i3, h⟩ := h.freeze
    walk_at "h"
    with_reducible refine args_nil ?_
    refine ⟨h.fn ok (by kernel_rfl), ?_⟩
    refine callS h (reduceAdd (sh := sh) ok h.wd (by decide) (by decide) (RTbs.mono l3 rr) ⟨[], ⟨_, _, rfl, n1, e3, i3⟩, .nil, fun _ hc => nomatch hc⟩) fun P4 vt s1 l4 rt h => ?_
    refine stc h fe ce (by kernel_rfl) (by walk_at "own") (by walk_at "ow") fun s1 h => ?_
    walk_at "n"
    with_reducible refine seq ?_
    walk_at "h"
    with_reducible refine wpAny_Assign_Name ?_ (by with_unfolding_all rfl)
    walk_at "h"
    refine callG ok h fe (mg86 ok) (by kernel_rfl) (by decide) (by with_unfolding_all rfl) (by with_unfolding_all rfl) (by with_unfolding_all rfl) ?_
    refine args_cons (ldg ok h fe (mg135 ok) (by kernel_rfl) ?_)
    walk_at "h"
    with_reducible refine args_cons ?_ (by with_unfolding_all rfl)
    walk_at "h"
    with_reducible refine Subscript_ ?_
    with_reducible refine ldv h fe (by walk_at "lk") ?_
    walk_at "h"
    with_reducible refine wpAny_Slice ?_
    with_reducible refine evalPart_none_step ?_
    with_reducible refine evalPart_none_step ?_
    with_reducible refine evalPart_some_step ?_
    walk_at "h"
    with_reducible refine UnaryOp_ ?_
    with_reducible refine kint h fun _ s1 h => ?_
    with_reducible refine negN h fun _ s1 h => ?_
    obtain ⟨vr, rl, lr⟩ := RTbs.mono (l3.trans l4) rr
    refine cutL h rl .none .none (.int (-1) _) (by decide) (by rw [lr.length, sizeLine_eq]; simp [runsOf]) (fun kr s1 h => ?_) (fun a i => ⟨_, by with_unfolding_all rfl⟩)
    rw [slicePick_rev] at h
    obtain ⟨P5, o5, l5, e5, i5, h⟩ := h.freeze
    walk_at "h"
    with_reducible refine args_cons ?_ (by with_unfolding_all rfl)
    walk_at "h"
    refine newD h fun dd2 s1 h => ?_
    have n6 := h.ne1 ok (.head _)
    obtain ⟨P6, o6, l6, e6, i6, h⟩ := h.freeze
    walk_at "h"
    with_reducible refine args_nil ?_
    refine ⟨h.fn ok (by kernel_rfl), ?_⟩
    refine callS h (reduceAdd (sh := sh) (Ts := (runsOf cs).reverse) ok h.wd (by decide) (by decide) (RTbs.mono l6 ⟨_, ⟨_, _, rfl, e5, i5⟩, lr.reverse.mono fun _ _ y => RTb.mono l5 y⟩) ⟨[], ⟨_, _, rfl, n6, e6, i6⟩, .nil, fun _ hc => nomatch hc⟩) fun P7 vb s1 l7 rb h => ?_
    refine stv h fe (by walk_at "up") fun s1 h => ?_
    exact Nx.next (next P7 _ _ _ _ (l1.trans (l2.trans (l3.trans (l4.trans (l5.trans (l6.trans l7)))))) (rt.mono (l5.trans (l6.trans l7))) rb h)
open PySem PySem.W PySem.W.X PyProof.Rows PySem.Calls
set_option Elab.async false
set_option maxRecDepth 100000
set_option maxHeartbeats 4000000
open PySem.SeqAt
section
variable {B : Bs} {P : PM} {s : Shared} {A : Around}
/-- two dicts with words for keys hold the same -/
theorem samePairsT {prog : Program} {w : World} {E : Value → Shared → Prop} {nm : String} {a b : Addr} {oa ob : Obj} {es es' : Array DictEntry} {ep ep' : Nat} {Q : Bool → Shared → Prop} (ha : (a == sysModules) = false) (hb : (b == sysModules) = false)
    (hoa : s.heap.get? a = some oa) (hda : oa.data = .dict es ep) (hob : s.heap.get? b = some ob) (hdb : ob.data = .dict es' ep') (hsz : es.size = es'.size) (hall : (es'.all fun e => isExactStrKey e.key) = true)
    (hit : ∀ e ∈ es, ∃ x t j e', e.key = .str x t ∧ (es'.findIdx? fun e => e.key.isStr x) = some j ∧ es'[j]? = some e' ∧ EqAt A s e.val e'.val true) (h : Q true s) : wpAny (model prog w) A (Builtin.Dict.samePairs nm a b) Q E s := by
  unfold Builtin.Dict.samePairs Builtin.Dict.showsAll
  rw [if_neg (by rw [ha]; exact Bool.false_ne_true), if_neg (by rw [hb]; exact Bool.false_ne_true)]
  refine wpAny_bind (wpAny_pure (wpAny_bind (wpAny_pure (wpAny_bind (wpAny_dictEntries hoa hda ?_)))))
  dsimp only
  refine wpAny_bind (wpAny_dictEntries hob hdb ?_)
  rw [if_neg (by rw [hsz]; simp)]
  refine wpAny_bind (wpAny_dictEpoch hoa hda (wpAny_bind ?_))
  rw [Std.Legacy.Range.forIn_eq_forIn_range']
  simp only [Std.Legacy.Range.size, Nat.sub_zero, Nat.add_sub_cancel, Nat.div_one]
  refine wpAny_forIn_list _ (fun rest q s' => s' = s ∧ q = (none, ()) ∧ ∀ i ∈ rest, i < es.size) _ ?_ ?_ _ _ ⟨rfl, rfl, fun i hi => by have := List.mem_range'_1.mp hi; lia⟩
  · rintro x rest q s' ⟨rfl, rfl, hlt⟩
    have hx := hlt x (.head _)
    refine wpAny_bind (wpAny_dictEntries hoa hda ?_)
    rw [Array.getElem?_eq_getElem hx]
    obtain ⟨k, t, j, e', hk, hj, he', heq⟩ := hit es[x] (Array.getElem_mem hx)
    show wpAny _ _ (holding [es[x].key, es[x].val] _ >>= _) _ _ _
    rw [hk]
    refine wpAny_bind (wpAny_holding (wpAny_bind (KTD.kt_dictFind_strs hob hdb hall ?_)))
    rw [hj]
    refine wpAny_bind (wpAny_dictEntries hob hdb ?_)
    rw [he']
    refine wpAny_holding (heq prog w _ _ ?_)
    show wpAny _ _ (if (!true) = true then _ else _) _ _ _
    rw [if_neg (by decide)]
    refine wpAny_bind (wpAny_dictEpoch hoa hda ?_)
    rw [if_neg (by simp)]
    exact wpAny_pure ⟨rfl, rfl, fun i hi => hlt i (.tail _ hi)⟩
  · rintro q s' ⟨rfl, rfl, _⟩
    exact wpAny_pure h
noncomputable def SameD {α : Type} (E : α → α → Prop) (cs ds : List (Str × α)) : Prop := cs.length = ds.length ∧ ∀ c ∈ cs, ∃ q, get ds c.1 = some q ∧ E c.2 q
theorem isStr_of (x : Str) (v : Value) : (strKind prg B.w).is x v = v.isStr x := by cases v <;> rfl
theorem isDct.hit {kvs : List (Str × Value)} {es : Array DictEntry} {x : Str} {y : Value} (ps : Pairs (strKind prg B.w) es.toList kvs) (e : valueAt kvs x = some y) : ∃ j e', (es.findIdx? fun e => e.key.isStr x) = some j ∧ es[j]? = some e' ∧ e'.val = y := by
  have hf := ps.find x
  rw [e] at hf
  obtain ⟨e0, he0, _⟩ := Option.map_eq_some_iff.mp hf
  have hs : ∃ j, (es.toList.findIdx? fun e => (strKind prg B.w).is x e.key) = some j := by
    rw [← Option.isSome_iff_exists, List.findIdx?_isSome, List.any_eq_true]
    exact ⟨e0, List.mem_of_find?_eq_some he0, List.find?_some (p := fun e : DictEntry => (strKind prg B.w).is x e.key) he0⟩
  obtain ⟨j, hj⟩ := hs
  obtain ⟨e', h1, h2, h3⟩ := ps.at hj
  rw [e] at h3
  refine ⟨j, e', ?_, by rw [← Array.getElem?_toList]; exact h1, (Option.some.inj h3).symm⟩
  rw [← hj]
  obtain ⟨l⟩ := es
  simp only [List.findIdx?_toArray]
  congr 1
  funext z
  exact (isStr_of x _).symm
theorem Pairs.of_mem {es : List DictEntry} {kvs : List (Str × Value)} (h : Pairs (strKind prg B.w) es kvs) {e : DictEntry} (he : e ∈ es) : ∃ x t, e.key = .str x t ∧ (x, e.val) ∈ kvs := by
  induction h with
  | nil => exact nomatch he
  | @cons e1 kv es kvs h1 h2 _ ih =>
    rcases List.mem_cons.mp he with rfl | he
    · obtain ⟨t, ht⟩ := Value.isStrOf_shape h1
      exact ⟨kv.1, t, ht, by rw [h2]; exact .head _⟩
    · obtain ⟨x, t, a, b⟩ := ih he
      exact ⟨x, t, a, .tail _ b⟩
theorem DR.of_mem {α : Type} {R : Value → α → Prop} {kvs : List (Str × Value)} {cs : List (Str × α)} (h : DR R kvs cs) {c : Str × Value} (hc : c ∈ kvs) : ∃ q, (c.1, q) ∈ cs ∧ R c.2 q := by
  induction h with
  | nil => exact nomatch hc
  | @cons k v q kvs cs r _ ih =>
    rcases List.mem_cons.mp hc with rfl | hc
    · exact ⟨q, .head _, r⟩
    · obtain ⟨q', a, b⟩ := ih hc
      exact ⟨q', .tail _ a, b⟩
theorem drBack {α : Type} {R : Value → α → Prop} {kvs : List (Str × Value)} {cs : List (Str × α)} (h : DR R kvs cs) {k : Str} {q : α} (e : get cs k = some q) : ∃ v, valueAt kvs k = some v ∧ R v q := by
  cases hv : valueAt kvs k with
  | none => rw [h.none hv] at e; cases e
  | some v =>
    obtain ⟨q', e', r⟩ := h.some hv
    rw [e] at e'; cases e'
    exact ⟨v, rfl, r⟩
theorem eqD {α : Type} {R : Value → α → Prop} {E : α → α → Prop} {v u : Value} {ka kb : List (Str × Value)} {cs ds : List (Str × α)} (ra : RD B P v ka) (rb : RD B P u kb) (da : DR R ka cs) (db : DR R kb ds) (same : SameD E cs ds)
    (he : ∀ x y q q', R x q → R y q' → E q q' → EqAt A.in1 s x y true) (hu : A.units < cLine) (fz : ∀ a o, P a = some o → s.heap.get? a = some o) : RcAt A s v u true := by
  obtain ⟨a, oa, rfl, na, pa, es, ep, ea, da', _, psa, _⟩ := ra
  obtain ⟨b, ob, rfl, nb, pb, es', ep', eb, db', _, psb, _⟩ := rb
  intro prog w E' Q h
  have ta : s.TypeIs (.ref a) "dict" := ⟨oa, fz _ _ pa, ea.1⟩
  have tb : s.TypeIs (.ref b) "dict" := ⟨ob, fz _ _ pb, eb.1⟩
  refine wpAny_richCompare_same_room (op := .Eq) ta tb PySem.F.slot_dict_eq (wpAny_call_entry PySem.F.slot_dict_eq ta PySem.F.entry_dict_eq ?_ (PySem.F.args_dict_eq_2 _ _)) hu
  show wpAny _ _ (Builtin.Dict.dictSlotArgs "__eq__" ⟨[.ref a, .ref b], []⟩ >>= _) _ _ s
  refine wpAny_bind ?_
  unfold Builtin.Dict.dictSlotArgs
  refine wpAny_bind (wpAny_notOrdered_dict ta ?_)
  show wpAny _ _ (pure (Value.ref a, Value.ref b)) _ _ s
  refine wpAny_pure (wpAny_bind (wpAny_isInstance (T := "dict") tb PySem.F.sub_dict_dict ?_))
  simp only [Bool.not_true, Bool.false_eq_true, if_false]
  refine wpAny_bind (wpAny_pure (wpAny_bind (wpAny_pure (wpAny_bind (samePairsT na nb (fz _ _ pa) da' (fz _ _ pb) db' ?_ ?_ ?_ ?_)))))
  · rw [← Array.length_toList, ← Array.length_toList, psa.length, psb.length, da.length, db.length, same.1]
  · rw [← Array.all_toList, List.all_eq_true]
    intro e he
    obtain ⟨x, t, hk, _⟩ := Pairs.of_mem psb he
    rw [hk]; rfl
  · intro e hm
    obtain ⟨x, t, hk, hm2⟩ := Pairs.of_mem psa (Array.mem_toList_iff.mpr hm)
    obtain ⟨q, hq, rq⟩ := da.of_mem hm2
    obtain ⟨q', e1, eq⟩ := same.2 _ hq
    obtain ⟨y, e2, ry⟩ := drBack db e1
    obtain ⟨j, e', e3, e4, e5⟩ := isDct.hit psb e2
    exact ⟨x, t, j, e', hk, e3, e4, by rw [e5]; exact he _ _ _ _ rq ry eq⟩
  · exact wpAny_pure ⟨_, rfl, (fun x => nomatch x), by simpa using h⟩
theorem EqAt.refs {v u : Value} {a b : Addr} (ea : v = .ref a) (eb : u = .ref b) (h : RcAt A s v u true) : EqAt A s v u true := by
  subst ea eb
  by_cases hab : a = b
  · subst hab; exact EqAt.same _
  · exact EqAt.of_refs hab h
theorem eqDat {α : Type} {R : Value → α → Prop} {E : α → α → Prop} {v u : Value} {ka kb : List (Str × Value)} {cs ds : List (Str × α)} (ra : RD B P v ka) (rb : RD B P u kb) (da : DR R ka cs) (db : DR R kb ds) (same : SameD E cs ds)
    (he : ∀ x y q q', R x q → R y q' → E q q' → EqAt A.in1 s x y true) (hu : A.units < cLine) (fz : ∀ a o, P a = some o → s.heap.get? a = some o) : EqAt A s v u true := by
  obtain ⟨a, _, ea, _⟩ := id ra
  obtain ⟨b, _, eb, _⟩ := id rb
  exact EqAt.refs ea eb (eqD ra rb da db same he hu fz)
/-- all alike, one by one -/
inductive EqAll (A : Around) (s : Shared) : List Value → List Value → Prop
  | nil : EqAll A s [] []
  | cons {x y : Value} {xs ys : List Value} : EqAt A s x y true → EqAll A s xs ys → EqAll A s (x :: xs) (y :: ys)
theorem EqAll.length {xs ys : List Value} (h : EqAll A s xs ys) : xs.length = ys.length := by induction h <;> simp_all
theorem EqAll.at {xs ys : List Value} (h : EqAll A s xs ys) {j : Nat} (h1 : j < xs.length) (h2 : j < ys.length) : EqAt A s xs[j] ys[j] true := by
  induction h generalizing j with
  | nil => simp at h1
  | cons a _ ih =>
    cases j with
    | zero => exact a
    | succ j => exact ih (by simpa using h1) (by simpa using h2)
theorem allT (n : Nat) : (List.range n).all (fun _ => true) = true := List.all_eq_true.mpr fun _ _ => rfl
theorem eqInt {i : Int} {t u : Tok} : EqAt A s (.int i t) (.int i u) true := by have := EqAt.int_int (A := A) (s := s) i t i u; rwa [beq_self_eq_true] at this
theorem eqStr {i : Str} {t u : Tok} : EqAt A s (.str i t) (.str i u) true := by have := EqAt.str_str (A := A) (s := s) i t i u; rwa [beq_self_eq_true] at this
theorem eqT {v u : Value} {xs ys : List Value} (ra : RT P v xs) (rb : RT P u ys) (all : EqAll A.in1 s xs ys) (hu : A.units < cLine) (fz : ∀ a o, P a = some o → s.heap.get? a = some o) : EqAt A s v u true := by
  obtain ⟨a, oa, rfl, pa, n, rfl⟩ := ra
  obtain ⟨b, ob, rfl, pb, n', rfl⟩ := rb
  have len := all.length
  refine EqAt.refs rfl rfl ?_
  have := RcAt.tuples (A := A) (s := s) (e := fun _ => true) ⟨_, fz _ _ pa, rfl, n, rfl⟩ ⟨_, fz _ _ pb, rfl, n', rfl⟩ hu (fun j h1 h2 => all.at (by simpa using h1) (by simpa using h2))
  simpa [len, allT] using this
theorem eqRow {v u : Value} {r : Row} (ra : RRow P v r) (rb : RRow P u r) (hu : A.units < cLine) (fz : ∀ a o, P a = some o → s.heap.get? a = some o) : EqAt A s v u true := by
  obtain ⟨_, _, _, _, _, _, _, _, ra⟩ := ra
  obtain ⟨_, _, _, _, _, _, _, _, rb⟩ := rb
  exact eqT ra rb (.cons eqInt (.cons eqInt (.cons eqInt (.cons eqInt (.cons eqStr (.cons eqInt (.cons eqStr (.cons eqStr .nil)))))))) hu fz
theorem eqPart {sh : Bool} {v u : Value} {q : Quad} (ra : RPart sh P v q) (rb : RPart sh P u q) (hu : A.units < cLine) (fz : ∀ a o, P a = some o → s.heap.get? a = some o) : EqAt A s v u true := by
  cases sh with
  | true =>
    obtain ⟨t, rfl⟩ := ra
    obtain ⟨t', rfl⟩ := rb
    exact eqInt
  | false =>
    obtain ⟨_, _, _, _, ra⟩ := ra
    obtain ⟨_, _, _, _, rb⟩ := rb
    exact eqT ra rb (.cons eqInt (.cons eqInt (.cons eqInt (.cons eqInt .nil)))) hu fz
/-- parts are told by their counts alone, if short -/
noncomputable def PartE (sh : Bool) (q q' : Quad) : Prop := if sh then q.1 = q'.1 else q = q'
theorem RPart.cong {sh : Bool} {v : Value} {q q' : Quad} (h : RPart sh P v q) (e : PartE sh q q') : RPart sh P v q' := by
  cases sh with
  | true => have e : q.1 = q'.1 := e; obtain ⟨t, rfl⟩ := h; exact ⟨t, by rw [e]⟩
  | false => have e : q = q' := e; subst e; exact h
theorem eqC {sh : Bool} {v u : Value} {cs ds : Callers} (ra : RC B sh P v cs) (rb : RC B sh P u ds) (same : SameD (PartE sh) cs ds) (hu : A.units + 10 < cLine) (fz : ∀ a o, P a = some o → s.heap.get? a = some o) : EqAt A s v u true := by
  obtain ⟨ka, ra, da, _⟩ := ra
  obtain ⟨kb, rb, db, _⟩ := rb
  exact eqDat ra rb da db same (fun x y q q' h1 h2 e => eqPart (h1.cong e) h2 (by show A.units + 1 < _; lia) fz) (by lia) fz
noncomputable def EntE (sh : Bool) (a b : Entry) : Prop := a.1 = b.1 ∧ SameD (PartE sh) a.2 b.2
theorem eqE {sh : Bool} {v u : Value} {a b : Entry} (ra : RE B sh P v a) (rb : RE B sh P u b) (e : EntE sh a b) (hu : A.units + 20 < cLine) (fz : ∀ a o, P a = some o → s.heap.get? a = some o) : EqAt A s v u true := by
  obtain ⟨_, _, _, _, c, ra, ca⟩ := ra
  obtain ⟨_, _, _, _, d, rb, cb⟩ := rb
  obtain ⟨e1, e2⟩ := e
  rw [e1] at ra
  exact eqT ra rb (.cons eqInt (.cons eqInt (.cons eqInt (.cons eqInt (.cons (eqC ca cb e2 (by show A.units + 1 + 10 < _; lia) fz) .nil))))) (by lia) fz
theorem eqTb {sh : Bool} {v u : Value} {T U : Table} (ra : RTb B sh P v T) (rb : RTb B sh P u U) (same : SameD (EntE sh) T U) (hu : A.units + 30 < cLine) (fz : ∀ a o, P a = some o → s.heap.get? a = some o) : RcAt A s v u true := by
  obtain ⟨ka, ra, da, _⟩ := ra
  obtain ⟨kb, rb, db, _⟩ := rb
  exact eqD ra rb da db same (fun x y q q' h1 h2 e => eqE h1 h2 e (by show A.units + 1 + 20 < _; lia) fz) (by lia) fz
/-- two dicts against each other -/
theorem neD {α : Type} {R : Value → α → Prop} {E : α → α → Prop} {E' : Value → Shared → Prop} {Q : Value → Shared → Prop} {v u : Value} {ka kb : List (Str × Value)} {cs ds : List (Str × α)} (ra : RD B P v ka) (rb : RD B P u kb) (da : DR R ka cs) (db : DR R kb ds) (same : SameD E cs ds)
    (he : ∀ x y q q', R x q → R y q' → E q q' → EqAt A.in1 s x y true) (hu : A.units < cLine) (fz : ∀ a o, P a = some o → s.heap.get? a = some o) (h : Q (.bool false) s) : wpAny (mdl B) A (compareOp .NotEq v u) Q E' s := by
  obtain ⟨a, oa, rfl, na, pa, ia⟩ := ra
  obtain ⟨b, ob, rfl, nb, pb, ib⟩ := rb
  have len : ka.length = kb.length := by rw [da.length, db.length, same.1]
  have hits : ∀ l, (∀ c ∈ l, c ∈ ka) → KeqHits A.in1 s kb l true := by
    intro l
    induction l with
    | nil => intro _; exact .nil
    | cons c l ih =>
      intro hl
      obtain ⟨q, hq, rq⟩ := da.of_mem (hl c (.head _))
      obtain ⟨q', e1, eq⟩ := same.2 _ hq
      obtain ⟨y, e2, ry⟩ := drBack db e1
      exact .hit (e := true) (b := true) e2 (he _ _ _ _ rq ry eq) (ih fun d hd => hl d (.tail _ hd))
  refine keq_ne (knd := skd B) (r := true) na nb (ia.dictOf (fz _ _ pa)) (ib.dictOf (fz _ _ pb)) hu (fun _ => hits ka fun _ h => h) ?_
  rw [len, beq_self_eq_true]; exact h
/-- two lists of rows against each other -/
theorem neRows {E' : Value → Shared → Prop} {Q : Value → Shared → Prop} {v u : Value} {rs : List Row} (ra : RLs RRow P v rs) (rb : RLs RRow P u rs) (hu : A.units + 10 < cLine) (fz : ∀ a o, P a = some o → s.heap.get? a = some o) (h : Q (.bool false) s) : wpAny (mdl B) A (compareOp .NotEq v u) Q E' s := by
  obtain ⟨xs, ⟨a, oa, rfl, pa, n, rfl⟩, la⟩ := ra
  obtain ⟨ys, ⟨b, ob, rfl, pb, n', rfl⟩, lb⟩ := rb
  refine PySem.SeqAt.RcNeAt.lists (e := fun _ => true) (items := xs.toArray) (items2 := ys.toArray) ⟨_, fz _ _ pa, rfl, n, rfl⟩ ⟨_, fz _ _ pb, rfl, n', rfl⟩ (by simp [la.length, lb.length]) (by lia) (fun j h1 h2 => ?_) _ _ _ _ ?_
  · have h1' : j < xs.length := by simpa using h1
    have h2' : j < ys.length := by simpa using h2
    obtain ⟨r1, e1, x1⟩ := la.at (List.getElem?_eq_getElem h1')
    obtain ⟨r2, e2, x2⟩ := lb.at (List.getElem?_eq_getElem h2')
    rw [e1] at e2; cases e2
    exact eqRow x1 x2 (by show A.units + 1 < _; lia) fz
  · simpa [allT] using h
end
open PySem PySem.W PySem.W.X PyProof.Rows PySem.Calls
set_option Elab.async false
set_option maxRecDepth 100000
set_option maxHeartbeats 4000000
theorem mg152 {B : Bs} (ok : Ok B) : B.mg "_law_due" = some (.ref 152) := mg_of ok.X ok.g (by kernel_rfl)
theorem mg159 {B : Bs} (ok : Ok B) : B.mg "_law_order" = some (.ref 159) := mg_of ok.X ok.g (by kernel_rfl)
theorem mg70 {B : Bs} (ok : Ok B) : B.mg "count_calls" = some (.ref 70) := mg_of ok.X ok.g (by kernel_rfl)
noncomputable def toD {α : Type} (l : List (Str × α)) : List (Str × α) := l.foldl (fun acc c => put acc c.1 c.2) []
theorem toD_succ {α β : Type} {l : List β} {k : Nat} {b : β} (f : β → Str × α) (e : l[k]? = some b) : toD ((l.take (k + 1)).map f) = put (toD ((l.take k).map f)) (f b).1 (f b).2 := by
  rw [take_map_succ f e]
  unfold toD
  rw [List.foldl_append]; rfl
section
variable {B : Bs} {P0 P P1 : PM} {s0 s : Shared} {L C : Addr} {m mC : Str → Option Value} {own own' : List Own} {A : Around} {E : Value → Shared → Prop} {e : Env} {ns : List Str} {vs vs' : List (Option Value)}
theorem evItemsE {o : Expr} {apos cpos : Pos} {Q : Value → Shared → Prop} (hbase : attributeBase o "items" e (eval o e) = eval o e) (hline : (apos.endLine == cpos.line) = true)
    (ho : wpAny (mdl B) A (eval o e) (fun v s1 => ∃ d P kvs L m own, v = .ref d ∧ RD B P (.ref d) kvs ∧ St B P0 s0 P L m own s1 ∧ ∀ r s', St B P0 s0 P L m ((r, isDV d) :: own) s' → Q (.ref r) s') E s) : wpAny (mdl B) A (eval (.Call (.Attribute o "items" apos) [] [] cpos) e) Q E s := by
  refine wpAny_Call_method (T := "dict") (id := "dict.items") hbase rfl hline F.plainAttrs_dict F.slot_dict_items F.type_dict_items (wpAny_mono ho ?_ fun _ _ x => x)
  rintro v s1 ⟨d, P, kvs, L, m, own, rfl, ⟨d', o, ed, hd, pd, i⟩, h, q⟩
  cases ed
  have hm := i.dictOf (h.at pd)
  refine ⟨hm.typeIs, hm.mapOf.noDict, ?_⟩
  exact method_meetsIn F.slot_dict_items F.entry_dict_items rfl (PySem.evalArgs_none ⟨rfl, hm.typeIs, F.args_dict_items_1 _, _, meets_dict_items (skd B) d hd, ⟨kvs, hm⟩, q _ _ (h.new _ rfl rfl)⟩)
end
inductive RHd (B : Bs) (P : PM) (v : Value) (hs : List (Str × Int)) : Prop
  | mk (kvs : _) (x1 : RD B P v kvs) (x2 : DR (RI P) kvs hs)
theorem RHd.mono {B : Bs} {P P' : PM} (l : P.le P') {v : Value} {hs : List (Str × Int)} (h : RHd B P v hs) : RHd B P' v hs := let ⟨kvs, a, b⟩ := h; ⟨kvs, a.mono l, b⟩
theorem drC {B : Bs} {sh : Bool} {P P' : PM} (l : P.le P') {ys : List (Str × Value)} {cs : List (Str × Callers)} (h : DR (RC B sh P) ys cs) : DR (RC B sh P') ys cs := h.mono fun _ _ y => RC.mono l y
noncomputable def headsOf (cs : Callers) : List (Str × Int) := toD (cs.map fun c => (c.1, c.2.1))
noncomputable def hdsOf (T : Table) : List (Str × List (Str × Int)) := toD (T.map fun c => (c.1, headsOf c.2.2))
noncomputable def dueRows (cs : List Cl) : List Row := ((orderOf cs 3).map (dueAt cs)).map (·.row)
theorem RDues.mono {B : Bs} {sh : Bool} {P P' : PM} (l : P.le P') {v : Value} {ds : List Due} (h : RLs (RDue B sh) P v ds) : RLs (RDue B sh) P' v ds := RLs.mono (R := RDue B sh) (fun _ _ _ _ l h => RDue.mono l h) l h
theorem RRows.mono {P P' : PM} (l : P.le P') {v : Value} {ds : List Row} (h : RLs RRow P v ds) : RLs RRow P' v ds := RLs.mono (R := RRow) (fun _ _ _ _ l h => RRow.mono l h) l h
/-- due, and the first question -/
theorem lawD {B : Bs} {P0 P : PM} {s s1 : Shared} {L : Addr} {Q : Flow → Shared → Prop} {sh : Bool} (ok : Ok B) {v vn vp vk vc vt vr vb vd : Value} {cs : List Cl} {ks : List (Int × Int)} {rows : List Row} (hl : cs.length ≤ 10) (hc : ∀ c ∈ cs, c.ok ∧ c.sm) (r : RLs RCl P vc cs) (rk : RKeys P vk ks)
    (hkl : ks.length ≤ 10) (hks : ∀ k ∈ ks, 0 ≤ k.1 ∧ k.1 < 8) (h2 : 2 ≤ (orderOf cs 3).length) (rd : RLs RRow P vd rows)
    (pure1 : ∀ idx : List Nat, idx.Perm (List.range (dueRows cs).length) → idx.Pairwise (ordR (dueRows cs) ks) → idx.map (rAt (dueRows cs)) = rows)
    (fe : FE (envC B 164 L) L ["script", "numbers", "pick", "keys", "runs", "back", "told", "due"]) (ce : CE (envC B 164 L) [("heads", L + 1 + 1 + 1 + 1), ("table", L + 1 + 1 + 1), ("calls", L + 1 + 1), ("short", L + 1)])
    (h : St B P0 s P L (asg ["script", "numbers", "pick", "keys", "runs", "back", "told", "due"] [some v, some vn, some vp, some vk, some vr, some vb, some vd, none]) [(L + 1 + 1 + 1 + 1, isCel none), (L + 1 + 1 + 1, isCel (some vt)), (L + 1 + 1, isCel (some vc)), (L + 1, isCel (some (.bool sh)))] s1)
    (next : ∀ P1 s2 vd2, P.le P1 → RLs (RDue B sh) P1 vd2 ((orderOf cs 3).map (dueAt cs)) → St B P0 s P1 L (asg ["script", "numbers", "pick", "keys", "runs", "back", "told", "due"] [some v, some vn, some vp, some vk, some vr, some vb, some vd, some vd2]) [(L + 1 + 1 + 1 + 1, isCel none), (L + 1 + 1 + 1, isCel (some vt)), (L + 1 + 1, isCel (some vc)), (L + 1, isCel (some (.bool sh)))] s2 →
      wpAny (mdl B) (AA 461 1963) (execs ((bodyAt 22).drop 11) (envC B 164 L)) Q no s2) :
    wpAny (mdl B) (AA 461 1963) (execs ((bodyAt 22).drop 9) (envC B 164 L)) Q no s1 := by
  have ol : (orderOf cs 3).length ≤ 30 := by have := orderOf_len cs 3; lia
  refine seq ?_
  walk_at "h"
  with_reducible refine wpAny_Assign_Name ?_ (by with_unfolding_all rfl)
  walk_at "h"
  refine callG ok h fe (mg152 ok) (by kernel_rfl) (by decide) (by with_unfolding_all rfl) (by with_unfolding_all rfl) (by with_unfolding_all rfl) ?_
  refine args_cons ?_
  refine ldc h fe ce (by walk_at "own") (by walk_at "own") ?_
  refine args_cons ?_
  refine ldc h fe ce (by walk_at "own") (by walk_at "own") ?_
  walk_at "h"
  with_reducible refine args_nil ?_
  refine ⟨h.fn ok (by kernel_rfl), ?_⟩
  refine callS h ((spec152 (sh := sh) (cs := cs) ok h.wd hl hc r).room (by decide) (by decide)) fun P1 v1 s1 l1 r1 h => ?_
  with_reducible refine stv h fe (by walk_at "up") fun s1 h => ?_
  walk_at "n"
  with_reducible refine seq ?_
  walk_at "h"
  with_reducible refine wpAny_If ?_
  with_reducible refine wpAny_isTrue_Compare1 ?_ (by with_unfolding_all rfl)
  with_reducible refine ldv h fe (by walk_at "lk") ?_
  walk_at "h"
  refine callG ok h fe (mg159 ok) (by kernel_rfl) (by decide) (by with_unfolding_all rfl) (by with_unfolding_all rfl) (by with_unfolding_all rfl) ?_
  refine args_cons ?_
  refine compL (cl := []) (by with_unfolding_all rfl) rfl (by decide) (by intro _; with_unfolding_all rfl) ?_
  with_reducible refine ldv h fe (by walk_at "lk") ?_
  obtain ⟨vx, rl, lr⟩ := id r1
  have len := lr.length
  rw [List.length_map] at len
  refine iterL2 h rfl rl fun it p s1 hit sl h => ?_
  refine compL_body ["one"] h hit sl (by rw [len, sizeLine_eq]; lia) (by decide) rfl fe (by decide) (by decide) (fun k P' ys => LR (RRow P') ys ((((orderOf cs 3).map (dueAt cs)).take k).map (·.row))) .nil ?_ ?_
  · rintro C D k P' vs' ys x s1 fe hk hv l2 hl inv h
    obtain ⟨a, rfl⟩ := len1 hl
    obtain ⟨c, ec, da, db, dt, rt, rr, rc⟩ := lr.at hv
    with_reducible refine stb h fe (by walk_at "up") fun s1 h => ?_
    refine wpAny_tests_nil ?_
    unfold TurnL
    first | walk_at "n" | rw [if_pos rfl]
    walk_at "h"
    with_reducible refine Subscript_ ?_
    with_reducible refine ldv h fe (by walk_at "lk") ?_
    with_reducible refine kint h fun _ s1 h => ?_
    refine atT h (rt.mono l2) (by decide) (by decide) rfl ?_ (by intros; with_unfolding_all rfl)
    refine ⟨P', _, l2, rfl, ?_, h⟩
    show LR (RRow P') _ ((((orderOf cs 3).map (dueAt cs)).take (k + 1)).map _)
    rw [take_map_succ _ ec]
    exact inv.snoc (rr.mono l2)
  · rintro C D P2 mC ys s1 l2 inv hy h
    refine compEnd h fun s1 h => ?_
    obtain ⟨P3, o3, l3, e3, i3, h⟩ := h.freeze
    have inv : LR (RRow P2) ys (dueRows cs) := by
      rw [List.take_of_length_le (by rw [len, List.length_map]; exact Nat.le_refl _)] at inv
      exact inv
    have dl : (dueRows cs).length = (orderOf cs 3).length := by unfold dueRows; rw [List.length_map, List.length_map]
    walk_at "h"
    with_reducible refine args_cons ?_ (by with_unfolding_all rfl)
    with_reducible refine ldv h fe (by walk_at "lk") ?_
    walk_at "h"
    with_reducible refine args_nil ?_
    refine ⟨h.fn ok (by kernel_rfl), ?_⟩
    refine callS h ((spec159 (rs := dueRows cs) (ks := ks) ok h.wd (by lia) (by lia) hks hkl ⟨_, ⟨_, _, rfl, e3, i3⟩, inv.mono fun _ _ y => RRow.mono l3 y⟩ (rk.mono (l1.trans (l2.trans l3)))).room (by decide) (by decide)) fun P4 v4 s1 l4 r4 h => ?_
    obtain ⟨idx, ip, iw, rr⟩ := r4
    rw [pure1 idx ip iw] at rr
    have l04 := l1.trans (l2.trans (l3.trans l4))
    refine neRows (B := B) (RRows.mono l04 rd) rr (by decide) h.wd.fz ?_
    with_reducible refine wpAny_truthy_bool ?_
    first | walk_at "n" | rw [if_neg Bool.false_ne_true]
    exact seq0 (Nx.next (next P4 _ _ l04 (RDues.mono (l2.trans (l3.trans l4)) r1) h))
/-- the second question -/
theorem lawE {B : Bs} {P0 P : PM} {s s1 : Shared} {L : Addr} {Q : Flow → Shared → Prop} {sh : Bool} (ok : Ok B) {v vn vp vk vc vt vr vb vd vd2 : Value} {T : Table} {ds : List Due} (rt : RTb B sh P vt T) (rd : RLs (RDue B sh) P vd2 ds) (hdl : ds.length ≤ 30)
    (pure2 : SameD (SameD (PartE sh)) (toD (T.map fun c => (c.1, c.2.2))) (toD (ds.map fun d => (d.row.n, d.callers))))
    (fe : FE (envC B 164 L) L ["script", "numbers", "pick", "keys", "runs", "back", "told", "due"]) (ce : CE (envC B 164 L) [("heads", L + 1 + 1 + 1 + 1), ("table", L + 1 + 1 + 1), ("calls", L + 1 + 1), ("short", L + 1)])
    (h : St B P0 s P L (asg ["script", "numbers", "pick", "keys", "runs", "back", "told", "due"] [some v, some vn, some vp, some vk, some vr, some vb, some vd, some vd2]) [(L + 1 + 1 + 1 + 1, isCel none), (L + 1 + 1 + 1, isCel (some vt)), (L + 1 + 1, isCel (some vc)), (L + 1, isCel (some (.bool sh)))] s1)
    (next : ∀ P1 s2, P.le P1 → St B P0 s P1 L (asg ["script", "numbers", "pick", "keys", "runs", "back", "told", "due"] [some v, some vn, some vp, some vk, some vr, some vb, some vd, some vd2]) [(L + 1 + 1 + 1 + 1, isCel none), (L + 1 + 1 + 1, isCel (some vt)), (L + 1 + 1, isCel (some vc)), (L + 1, isCel (some (.bool sh)))] s2 →
      wpAny (mdl B) (AA 461 1963) (execs ((bodyAt 22).drop 12) (envC B 164 L)) Q no s2) :
    wpAny (mdl B) (AA 461 1963) (execs ((bodyAt 22).drop 11) (envC B 164 L)) Q no s1 := by
  have t6 := rt.le6
  obtain ⟨kt, rk, dt, mt⟩ := id rt
  have tl := dt.length
  refine seq ?_
  walk_at "h"
  with_reducible refine wpAny_If ?_
  with_reducible refine wpAny_isTrue_Compare1 ?_ (by with_unfolding_all rfl)
  walk_at "h"
  refine compD (cl := [("table", L + 1 + 1 + 1)]) (by with_unfolding_all rfl) rfl (by decide) (by intro _; with_unfolding_all rfl) ?_
  refine ldc h fe ce (by walk_at "own") (by walk_at "own") ?_
  refine iterK2 h rfl rk fun it p s1 hit sl h => ?_
  refine compD_body ["name"] h (hit.g sl _ _) (by rw [tl, sizeLine_eq]; lia) (by decide) rfl fe (by decide) (by decide) (fun k P' ys => DR (RC B sh P') ys (toD ((T.take k).map fun c => (c.1, c.2.2)))) .nil (fun _ _ _ _ l h => by exact drC l h) ?_ ?_
  · rintro C D k P' vs' ys x s1 fe hk ⟨x1, y1, t1, e1, rfl⟩ l2 hl2 inv h
    obtain ⟨a, rfl⟩ := len1 hl2
    obtain ⟨q, eq, rq⟩ := dt.at e1
    obtain ⟨w1, w2, w3, w4, vc1, rtq, rcq⟩ := rq.mono l2
    with_reducible refine stb h fe (by walk_at "up") fun s1 h => ?_
    unfold TurnD
    with_reducible refine ldv h fe (by walk_at "lk") ?_
    walk_at "h"
    with_reducible refine Subscript_ ?_
    walk_at "h"
    with_reducible refine Subscript_ ?_
    refine ldc (cs := [("table", L + 1 + 1 + 1)]) (c := L + 1 + 1 + 1) (v := vt) h fe (ceC (by kernel_rfl) (by kernel_rfl) (by kernel_rfl)) (by walk_at "own") (by walk_at "own") ?_
    with_reducible refine ldv h fe (by walk_at "lk") ?_
    refine atD h (rk.mono l2) (valueAt_of_nodup rk.nodup e1) (fun s1 h => ?_) (by intros; with_unfolding_all rfl)
    with_reducible refine kint h fun _ s1 h => ?_
    refine atT h rtq (by decide) (by decide) rfl ?_ (by intros; with_unfolding_all rfl)
    refine ⟨P', _, _, _, l2, rfl, rfl, ?_, h⟩
    show DR (RC B sh P') _ (toD ((T.take (k + 1)).map _))
    rw [toD_succ _ eq]
    exact inv.put rcq
  · rintro C D P1 mC ys s1 l1 inv h
    refine compEnd h fun s1 h => ?_
    have n1 := h.ne1 ok (.head _)
    obtain ⟨P2, o2, l2, e2, i2, h⟩ := h.freeze
    rw [tl, List.take_length] at inv
    have l02 := l1.trans l2
    refine compD (cl := []) (by with_unfolding_all rfl) rfl (by decide) (by intro _; with_unfolding_all rfl) ?_
    with_reducible refine ldv h fe (by walk_at "lk") ?_
    obtain ⟨vx, rl, lr⟩ := RDues.mono l02 rd
    have len := lr.length
    refine iterL2 h rfl rl fun it p s1 hit sl h => ?_
    refine compD_body ["one"] h (hit.g sl _ _) (by rw [len, sizeLine_eq]; lia) (by decide) rfl fe (by decide) (by decide) (fun k P' ys => DR (RC B sh P') ys (toD ((ds.take k).map fun d => (d.row.n, d.callers)))) .nil (fun _ _ _ _ l h => by exact drC l h) ?_ ?_
    · rintro C D k P' vs' ys x s1 fe hk hv l3 hl2 inv h
      obtain ⟨a, rfl⟩ := len1 hl2
      obtain ⟨d, ed, da, db, dt, rt1, rr, rc⟩ := lr.at hv
      obtain ⟨_, _, _, _, _, _, _, _, rrow⟩ := rr.mono l3
      with_reducible refine stb h fe (by walk_at "up") fun s1 h => ?_
      unfold TurnD
      walk_at "h"
      with_reducible refine Subscript_ ?_
      walk_at "h"
      with_reducible refine Subscript_ ?_
      with_reducible refine ldv h fe (by walk_at "lk") ?_
      with_reducible refine kint h fun _ s1 h => ?_
      refine atT h (rt1.mono l3) (by decide) (by decide) rfl ?_ (by intros; with_unfolding_all rfl)
      with_reducible refine kint h fun _ s1 h => ?_
      refine atT h rrow (by decide) (by decide) rfl ?_ (by intros; with_unfolding_all rfl)
      walk_at "h"
      with_reducible refine Subscript_ ?_
      with_reducible refine ldv h fe (by walk_at "lk") ?_
      with_reducible refine kint h fun _ s1 h => ?_
      refine atT h (rt1.mono l3) (by decide) (by decide) rfl ?_ (by intros; with_unfolding_all rfl)
      refine ⟨P', _, _, _, l3, rfl, rfl, ?_, h⟩
      show DR (RC B sh P') _ (toD ((ds.take (k + 1)).map _))
      rw [toD_succ _ ed]
      exact inv.put (rc.mono l3)
    · rintro C D3 P3 mC ys3 s1 l3 inv3 h
      refine compEnd h fun s1 h => ?_
      have n3 := h.ne1 ok (.head _)
      obtain ⟨P4, o4, l4, e4, i4, h⟩ := h.freeze
      rw [len, List.take_length] at inv3
      refine neD (B := B) (P := P4) ⟨_, _, rfl, n1, (l3.trans l4) _ _ e2, i2⟩ ⟨_, _, rfl, n3, e4, i4⟩ (inv.mono fun _ _ y => RC.mono (l2.trans (l3.trans l4)) y) (inv3.mono fun _ _ y => RC.mono l4 y) pure2 (fun x y q q' h1 h2 e => eqC h1 h2 e (by decide) h.wd.fz) (by decide) h.wd.fz ?_
      with_reducible refine wpAny_truthy_bool ?_
      first | walk_at "n" | rw [if_neg Bool.false_ne_true]
      exact seq0 (Nx.next (next P4 _ (l02.trans (l3.trans l4)) h))
open PySem PySem.W PySem.W.X PyProof.Rows PySem.Calls
set_option Elab.async false
set_option maxRecDepth 100000
set_option maxHeartbeats 4000000
theorem drH {B : Bs} {P P' : PM} (l : P.le P') {ys : List (Str × Value)} {cs : List (Str × List (Str × Int))} (h : DR (RHd B P) ys cs) : DR (RHd B P') ys cs := h.mono fun _ _ y => RHd.mono l y
theorem drI {P P' : PM} {ys : List (Str × Value)} {cs : List (Str × Int)} (h : DR (RI P) ys cs) : DR (RI P') ys cs := h.mono fun _ _ y => y
theorem len2 {α : Type} {l : List α} (h : l.length = 2) : ∃ a b, l = [a, b] := by
  match l, h with
  | [a, b], _ => exact ⟨a, b, rfl⟩
/-- heads -/
theorem lawF {B : Bs} {P0 P : PM} {s s1 : Shared} {L : Addr} {Q : Flow → Shared → Prop} {sh : Bool} (ok : Ok B) {v vn vp vk vc vt vr vb vd vd2 : Value} {T : Table} (rt : RTb B sh P vt T)
    (fe : FE (envC B 164 L) L ["script", "numbers", "pick", "keys", "runs", "back", "told", "due"]) (ce : CE (envC B 164 L) [("heads", L + 1 + 1 + 1 + 1), ("table", L + 1 + 1 + 1), ("calls", L + 1 + 1), ("short", L + 1)])
    (h : St B P0 s P L (asg ["script", "numbers", "pick", "keys", "runs", "back", "told", "due"] [some v, some vn, some vp, some vk, some vr, some vb, some vd, some vd2]) [(L + 1 + 1 + 1 + 1, isCel none), (L + 1 + 1 + 1, isCel (some vt)), (L + 1 + 1, isCel (some vc)), (L + 1, isCel (some (.bool sh)))] s1)
    (next : ∀ P1 s2 vh kh, P.le P1 → RD B P1 vh kh → DR (RHd B P1) kh (hdsOf T) → St B P0 s P1 L (asg ["script", "numbers", "pick", "keys", "runs", "back", "told", "due"] [some v, some vn, some vp, some vk, some vr, some vb, some vd, some vd2]) [(L + 1 + 1 + 1 + 1, isCel (some vh)), (L + 1 + 1 + 1, isCel (some vt)), (L + 1 + 1, isCel (some vc)), (L + 1, isCel (some (.bool sh)))] s2 →
      wpAny (mdl B) (AA 461 1963) (execs ((bodyAt 22).drop 13) (envC B 164 L)) Q no s2) :
    wpAny (mdl B) (AA 461 1963) (execs ((bodyAt 22).drop 12) (envC B 164 L)) Q no s1 := by
  have t6 := rt.le6
  obtain ⟨kt, rk, dt, mt⟩ := id rt
  have tl := dt.length
  refine seq ?_
  walk_at "h"
  with_reducible refine wpAny_Assign_Name ?_ (by with_unfolding_all rfl)
  walk_at "h"
  refine compD (cl := [("table", L + 1 + 1 + 1), ("short", L + 1)]) (by with_unfolding_all rfl) rfl (by decide) (by intro _; with_unfolding_all rfl) ?_
  refine ldc h fe ce (by walk_at "own") (by walk_at "own") ?_
  refine iterK2 h rfl rk fun it p s1 hit sl h => ?_
  refine compD_body ["name"] h (hit.g sl _ _) (by rw [tl, sizeLine_eq]; lia) (by decide) rfl fe (by decide) (by decide) (fun k P' ys => DR (RHd B P') ys (toD ((T.take k).map fun c => (c.1, headsOf c.2.2)))) .nil (fun _ _ _ _ l h => by exact drH l h) ?_ ?_
  · rintro C D k P' vs' ys x s1 fe hk ⟨x1, y1, t1, e1, rfl⟩ l2 hl2 inv h
    obtain ⟨a, rfl⟩ := len1 hl2
    obtain ⟨q, eq, rq⟩ := dt.at e1
    obtain ⟨w1, w2, w3, w4, vc1, rtq, rcq⟩ := rq.mono l2
    obtain ⟨kc, rkc, dc, mc⟩ := id rcq
    have cl6 : kc.length ≤ 6 := by
      have := six_le (dc.keys ▸ rkc.nodup) (fun z hz => by obtain ⟨c', h1, rfl⟩ := List.mem_map.mp hz; exact mc _ h1)
      rw [List.length_map, ← dc.length] at this; exact this
    with_reducible refine stb h fe (by walk_at "up") fun s1 h => ?_
    refine (?_ : wpAny _ _ _ _ _ _)
    with_reducible refine ldv h fe (by walk_at "lk") ?_
    walk_at "h"
    refine compD (cl := [("short", L + 1)]) (by with_unfolding_all rfl) rfl (by decide) (by intro _; with_unfolding_all rfl) ?_
    refine evItemsE (P0 := P0) (s0 := s) (by with_unfolding_all rfl) (by with_unfolding_all rfl) ?_
    walk_at "h"
    with_reducible refine Subscript_ ?_
    walk_at "h"
    with_reducible refine Subscript_ ?_
    refine ldc (cs := [("table", L + 1 + 1 + 1), ("short", L + 1)]) (c := L + 1 + 1 + 1) (v := vt) h fe (ceC (by kernel_rfl) (by kernel_rfl) (by kernel_rfl)) (by walk_at "own") (by walk_at "own") ?_
    with_reducible refine ldv h fe (by walk_at "lk") ?_
    refine atD h (rk.mono l2) (valueAt_of_nodup rk.nodup e1) (fun s1 h => ?_) (by intros; with_unfolding_all rfl)
    with_reducible refine kint h fun _ s1 h => ?_
    refine atT h rtq (by decide) (by decide) rfl ?_ (by intros; with_unfolding_all rfl)
    obtain ⟨dq, oq, rfl, _⟩ := id rkc
    refine ⟨dq, P', kc, _, _, _, rfl, rkc, h, fun r9 s1 h => ?_⟩
    refine iterIG h rfl rkc fun it9 p9 s1 hg h => ?_
    refine compD_body ["who", "part"] h (hg _ _ _) (by rw [sizeLine_eq]; lia) (by decide) rfl fe (by decide) (by decide) (fun k P' ys => DR (RI P') ys (toD ((q.2.take k).map fun c => (c.1, c.2.1)))) .nil (fun _ _ _ _ l h => by exact drI h) ?_ ?_
    · rintro C9 D9 k9 P9 vs9 ys9 x9 s1 fe9 hk9 ⟨x2, y2, t2, e2, rx9⟩ l9 hl9 inv9 h
      obtain ⟨a1, a2, rfl⟩ := len2 hl9
      obtain ⟨q2, eq2, rq2⟩ := dc.at e2
      have rq2 := rq2.mono l9
      have fe := fe9
      refine unpT (B := B) h rfl rx9 rfl rfl fun s1 h => ?_
      walk_at "h"
      with_reducible refine asgN h fe (by walk_at "up") fun s1 h => ?_
      with_reducible refine asgN h fe (by walk_at "up") fun s1 h => ?_
      with_reducible refine asg0 ?_
      refine (?_ : wpAny _ _ _ _ _ _)
      with_reducible refine ldv h fe (by walk_at "lk") ?_
      walk_at "h"
      with_reducible refine IfExp_ ?_
      refine wpAny_isTrue_value ?_
      refine ldc (cs := [("short", L + 1)]) (c := L + 1) (v := .bool sh) h fe (ceC (by kernel_rfl) (by kernel_rfl) (by kernel_rfl)) (by walk_at "own") (by walk_at "own") ?_
      with_reducible refine wpAny_truthy_bool ?_
      have fin9 : ∀ (vv : Value) (s1 : Shared), RI P9 vv q2.1 → St B P0 s P9 C9 (asg ["who", "part"] [some (.str x2 t2), some y2]) ((it9, p9 (k9 + 1)) :: (D9, isDct B ys9) :: (C, isNs (asg ["name"] [some (.str x1 t1)])) :: (it, p (k + 1)) :: (D, isDct B ys) :: (L, isNs (asg ["script", "numbers", "pick", "keys", "runs", "back", "told", "due"] [some v, some vn, some vp, some vk, some vr, some vb, some vd, some vd2])) :: [(L + 1 + 1 + 1 + 1, isCel none), (L + 1 + 1 + 1, isCel (some vt)), (L + 1 + 1, isCel (some vc)), (L + 1, isCel (some (.bool sh)))]) s1 →
          ∃ P'' vs x t, P'.le P'' ∧ vs.length = (["who", "part"] : List Str).length ∧ (Value.str x2 t2) = .str x t ∧ DR (RI P'') (stored ys9 x vv) (toD ((q.2.take (k9 + 1)).map fun c => (c.1, c.2.1))) ∧ St B P0 s P'' C9 (asg ["who", "part"] vs) ((it9, p9 (k9 + 1)) :: (D9, isDct B ys9) :: (C, isNs (asg ["name"] [some (.str x1 t1)])) :: (it, p (k + 1)) :: (D, isDct B ys) :: (L, isNs (asg ["script", "numbers", "pick", "keys", "runs", "back", "told", "due"] [some v, some vn, some vp, some vk, some vr, some vb, some vd, some vd2])) :: [(L + 1 + 1 + 1 + 1, isCel none), (L + 1 + 1 + 1, isCel (some vt)), (L + 1 + 1, isCel (some vc)), (L + 1, isCel (some (.bool sh)))]) s1 := by
        intro vv s1 hv h
        refine ⟨P9, _, _, _, l9, rfl, rfl, ?_, h⟩
        rw [toD_succ _ eq2]
        exact inv9.put hv
      cases sh with
      | true =>
        first | walk_at "n" | rw [if_pos rfl]
        with_reducible refine ldv h fe (by walk_at "lk") ?_
        obtain ⟨t3, rfl⟩ := rq2
        exact fin9 _ _ ⟨t3, rfl⟩ h
      | false =>
        first | walk_at "n" | rw [if_neg Bool.false_ne_true]
        with_reducible refine Subscript_ ?_
        with_reducible refine ldv h fe (by walk_at "lk") ?_
        with_reducible refine kint h fun _ s1 h => ?_
        obtain ⟨_, _, _, _, rp⟩ := rq2
        refine atT h rp (by decide) (by decide) rfl ?_ (by intros; with_unfolding_all rfl)
        exact fin9 _ _ ⟨_, rfl⟩ h
    · rintro C9 D9 P9 mC9 ys9 s1 l9 inv9 h
      refine compEnd h fun s1 h => ?_
      have n9 := h.ne1 ok (.head _)
      obtain ⟨P10, o10, l10, e10, i10, h⟩ := h.freeze
      rw [dc.length, List.take_length] at inv9
      refine ⟨P10, _, _, _, l2.trans (l9.trans l10), rfl, rfl, ?_, h⟩
      show DR (RHd B P10) _ (toD ((T.take (k + 1)).map _))
      rw [toD_succ _ eq]
      exact (drH (l9.trans l10) inv).put ⟨_, ⟨_, _, rfl, n9, e10, i10⟩, drI inv9⟩
  · rintro C D P1 mC ys s1 l1 inv h
    refine compEnd h fun s1 h => ?_
    have n1 := h.ne1 ok (.head _)
    obtain ⟨P2, o2, l2, e2, i2, h⟩ := h.freeze
    rw [tl, List.take_length] at inv
    refine stc h fe ce (by kernel_rfl) (by walk_at "own") (by walk_at "ow") fun s1 h => ?_
    exact Nx.next (next P2 _ _ _ (l1.trans l2) ⟨_, _, rfl, n1, e2, i2⟩ (drH l2 inv) h)
/-- the third question and the last -/
theorem lawG {B : Bs} {P0 P : PM} {s s1 : Shared} {L : Addr} {Q : Flow → Shared → Prop} {sh : Bool} (ok : Ok B) {v vn vp vk vc vt vr vb vd vd2 vh : Value} {T Tb : Table} {kh : List (Str × Value)} {H : List (Str × List (Str × Int))} {ds : List Due} (rt : RTb B sh P vt T) (rb : RTb B sh P vb Tb) (rh : RD B P vh kh) (dh : DR (RHd B P) kh H) (hH : H.length ≤ 6) (rd : RLs (RDue B sh) P vd2 ds) (hdl : ds.length ≤ 30)
    (pure3 : SameD (fun a b : Int => a = b) (toD (H.map fun c => (c.1, (c.2.map (·.2)).sum))) (toD (ds.map fun d => (d.row.n, d.n)))) (pure4 : SameD (EntE sh) Tb T)
    (fe : FE (envC B 164 L) L ["script", "numbers", "pick", "keys", "runs", "back", "told", "due"]) (ce : CE (envC B 164 L) [("heads", L + 1 + 1 + 1 + 1), ("table", L + 1 + 1 + 1), ("calls", L + 1 + 1), ("short", L + 1)])
    (h : St B P0 s P L (asg ["script", "numbers", "pick", "keys", "runs", "back", "told", "due"] [some v, some vn, some vp, some vk, some vr, some vb, some vd, some vd2]) [(L + 1 + 1 + 1 + 1, isCel (some vh)), (L + 1 + 1 + 1, isCel (some vt)), (L + 1 + 1, isCel (some vc)), (L + 1, isCel (some (.bool sh)))] s1)
    (fin : ∀ P1 s2, Wd B P1 s2 → (∀ a o, s.heap.get? a = some o → a ∉ tabs → s2.heap.get? a = some o) → Q (.ret (.bool true)) s2) :
    wpAny (mdl B) (AA 461 1963) (execs ((bodyAt 22).drop 13) (envC B 164 L)) Q no s1 := by
  have tl := dh.length
  refine seq ?_
  walk_at "h"
  with_reducible refine wpAny_If ?_
  with_reducible refine wpAny_isTrue_Compare1 ?_ (by with_unfolding_all rfl)
  walk_at "h"
  refine compD (cl := [("heads", L + 1 + 1 + 1 + 1)]) (by with_unfolding_all rfl) rfl (by decide) (by intro _; with_unfolding_all rfl) ?_
  refine ldc h fe ce (by walk_at "own") (by walk_at "own") ?_
  refine iterK2 h rfl rh fun it p s1 hit sl h => ?_
  refine compD_body ["name"] h (hit.g sl _ _) (by rw [tl, sizeLine_eq]; lia) (by decide) rfl fe (by decide) (by decide) (fun k P' ys => DR (RI P') ys (toD ((H.take k).map fun c => (c.1, (c.2.map (·.2)).sum)))) .nil (fun _ _ _ _ l h => by exact drI h) ?_ ?_
  · rintro C D k P' vs' ys x s1 fe hk ⟨x1, y1, t1, e1, rfl⟩ l2 hl2 inv h
    obtain ⟨a, rfl⟩ := len1 hl2
    obtain ⟨q, eq, rq⟩ := dh.at e1
    obtain ⟨kq, rkq, dq⟩ := rq.mono l2
    with_reducible refine stb h fe (by walk_at "up") fun s1 h => ?_
    refine (?_ : wpAny _ _ _ _ _ _)
    with_reducible refine ldv h fe (by walk_at "lk") ?_
    walk_at "h"
    refine callG ok h fe (mg70 ok) (by kernel_rfl) (by decide) (by with_unfolding_all rfl) (by with_unfolding_all rfl) (by with_unfolding_all rfl) ?_
    refine args_cons ?_
    walk_at "h"
    with_reducible refine Subscript_ ?_
    refine ldc (cs := [("heads", L + 1 + 1 + 1 + 1)]) (c := L + 1 + 1 + 1 + 1) (v := vh) h fe (ceC (by kernel_rfl) (by kernel_rfl) (by kernel_rfl)) (by walk_at "own") (by walk_at "own") ?_
    with_reducible refine ldv h fe (by walk_at "lk") ?_
    refine atD h (rh.mono l2) (valueAt_of_nodup rh.nodup e1) (fun s1 h => ?_) (by intros; with_unfolding_all rfl)
    walk_at "h"
    with_reducible refine args_nil ?_
    refine ⟨h.fn ok (by kernel_rfl), ?_⟩
    refine callS h ((spec70 ok h.wd rkq dq).room (by decide) (by decide)) fun P3 v3 s1 l3 r3 h => ?_
    refine ⟨P3, _, _, _, l2.trans l3, rfl, rfl, ?_, h⟩
    show DR (RI P3) _ (toD ((H.take (k + 1)).map _))
    rw [toD_succ _ eq]
    exact (drI inv).put r3
  · rintro C D P1 mC ys s1 l1 inv h
    refine compEnd h fun s1 h => ?_
    have n1 := h.ne1 ok (.head _)
    obtain ⟨P2, o2, l2, e2, i2, h⟩ := h.freeze
    rw [tl, List.take_length] at inv
    have l02 := l1.trans l2
    refine compD (cl := []) (by with_unfolding_all rfl) rfl (by decide) (by intro _; with_unfolding_all rfl) ?_
    with_reducible refine ldv h fe (by walk_at "lk") ?_
    obtain ⟨vx, rl, lr⟩ := RDues.mono l02 rd
    have len := lr.length
    refine iterL2 h rfl rl fun it p s1 hit sl h => ?_
    refine compD_body ["one"] h (hit.g sl _ _) (by rw [len, sizeLine_eq]; lia) (by decide) rfl fe (by decide) (by decide) (fun k P' ys => DR (RI P') ys (toD ((ds.take k).map fun d => (d.row.n, d.n)))) .nil (fun _ _ _ _ l h => by exact drI h) ?_ ?_
    · rintro C D k P' vs' ys x s1 fe hk hv l3 hl2 inv h
      obtain ⟨a, rfl⟩ := len1 hl2
      obtain ⟨d, ed, da, db, dt, rt1, rr, rc⟩ := lr.at hv
      obtain ⟨_, _, _, _, _, _, _, _, rrow⟩ := rr.mono l3
      with_reducible refine stb h fe (by walk_at "up") fun s1 h => ?_
      refine (?_ : wpAny _ _ _ _ _ _)
      walk_at "h"
      with_reducible refine Subscript_ ?_
      walk_at "h"
      with_reducible refine Subscript_ ?_
      with_reducible refine ldv h fe (by walk_at "lk") ?_
      with_reducible refine kint h fun _ s1 h => ?_
      refine atT h (rt1.mono l3) (by decide) (by decide) rfl ?_ (by intros; with_unfolding_all rfl)
      with_reducible refine kint h fun _ s1 h => ?_
      refine atT h rrow (by decide) (by decide) rfl ?_ (by intros; with_unfolding_all rfl)
      walk_at "h"
      with_reducible refine Subscript_ ?_
      with_reducible refine ldv h fe (by walk_at "lk") ?_
      with_reducible refine kint h fun _ s1 h => ?_
      refine atT h (rt1.mono l3) (by decide) (by decide) rfl ?_ (by intros; with_unfolding_all rfl)
      refine ⟨P', _, _, _, l3, rfl, rfl, ?_, h⟩
      show DR (RI P') _ (toD ((ds.take (k + 1)).map _))
      rw [toD_succ _ ed]
      exact inv.put ⟨_, rfl⟩
    · rintro C D3 P3 mC ys3 s1 l3 inv3 h
      refine compEnd h fun s1 h => ?_
      have n3 := h.ne1 ok (.head _)
      obtain ⟨P4, o4, l4, e4, i4, h⟩ := h.freeze
      rw [len, List.take_length] at inv3
      refine neD (B := B) (P := P4) (R := RI P4) ⟨_, _, rfl, n1, (l3.trans l4) _ _ e2, i2⟩ ⟨_, _, rfl, n3, e4, i4⟩ (drI inv) (drI inv3) pure3 (fun x y q q' h1 h2 e => ?_) (by decide) h.wd.fz ?_
      · subst e
        obtain ⟨t1, rfl⟩ := h1
        obtain ⟨t2, rfl⟩ := h2
        exact eqInt
      with_reducible refine wpAny_truthy_bool ?_
      first | walk_at "n" | rw [if_neg Bool.false_ne_true]
      refine seq0 (Nx.next ?_)
      have l04 := l02.trans (l3.trans l4)
      with_reducible refine seq ?_
      walk_at "h"
      with_reducible refine wpAny_Return_some ?_
      walk_at "h"
      with_reducible refine wpAny_Compare1 ?_ (by with_unfolding_all rfl)
      with_reducible refine ldv h fe (by walk_at "lk") ?_
      refine ldc h fe ce (by walk_at "own") (by walk_at "own") ?_
      refine eqTb (rb.mono l04) (rt.mono l04) pure4 (by decide) h.wd.fz _ _ _ _ ?_
      with_reducible refine Nx.ret ?_
      exact fin _ _ h.wd h.kp
open PySem PySem.W PySem.W.X PyProof.Rows PySem.Calls
set_option Elab.async false
set_option maxRecDepth 100000
set_option maxHeartbeats 4000000
theorem mg142 {B : Bs} (ok : Ok B) : B.mg "_law_rows" = some (.ref 142) := mg_of ok.X ok.g (by kernel_rfl)
/-- what TupleComp's compare gives -/
noncomputable def cmpK : List (Int × Int) → Row → Row → Int
  | [], _, _ => 0
  | k :: ks, a, b => if colLt k.1 a b = true then -k.2 else if colLt k.1 b a = true then k.2 else cmpK ks a b
noncomputable def lexLt (ks : List (Int × Int)) (a b : Row) : Bool := decide (cmpK ks a b < 0)
theorem lexLt_cons {k : Int × Int} {ks : List (Int × Int)} {a b : Row} : lexLt (k :: ks) a b = if colLt k.1 a b = true then decide (-k.2 < 0) else if colLt k.1 b a = true then decide (k.2 < 0) else lexLt ks a b := by
  unfold lexLt
  simp only [cmpK]
  split
  · rfl
  · split <;> rfl
theorem swo_lex {ks : List (Int × Int)} (hd : ∀ k ∈ ks, k.2 = 1 ∨ k.2 = -1) : Swo (lexLt ks) := by
  induction ks with
  | nil => exact ⟨fun a b h => by simp [lexLt, cmpK] at h, fun a b z h => by simp [lexLt, cmpK] at h⟩
  | cons k ks ih =>
    have ih := ih fun x hx => hd x (.tail _ hx)
    have w := swo_col k.1
    have key : ∀ (c : Row → Row → Bool), Swo c → (∀ a b, lexLt (k :: ks) a b = if c a b = true then true else if c b a = true then false else lexLt ks a b) → Swo (lexLt (k :: ks)) := by
      intro c wc hc
      have tr := fun a b z => wc.neg a b z
      refine ⟨fun a b h => ?_, fun a b z h => ?_⟩
      · rw [hc] at h ⊢
        have as1 := wc.asym a b
        have as2 := wc.asym b a
        have := ih.asym a b
        cases h1 : c a b <;> cases h2 : c b a <;> simp_all
      · rw [hc] at h ⊢
        rw [hc z b]
        have as1 := wc.asym a b
        have a2 := wc.asym b a
        have n1 := wc.neg a b z
        have n2 := wc.neg a z b
        have n3 := wc.neg z b a
        have n4 := wc.neg z a b
        have n5 := wc.neg b z a
        have n6 := wc.neg b a z
        have := ih.neg a b z
        cases h1 : c a b <;> cases h2 : c b a <;> cases h3 : c a z <;> cases h4 : c z a <;> cases h5 : c z b <;> cases h6 : c b z <;> simp_all
    rcases hd k (.head _) with e | e
    · refine key (colLt k.1) w fun a b => ?_
      rw [lexLt_cons, e]; rfl
    · refine key (fun a b => colLt k.1 b a) w.flip fun a b => ?_
      rw [lexLt_cons, e]
      have := w.asym a b
      cases h1 : colLt k.1 a b <;> cases h2 : colLt k.1 b a <;> simp_all
/-- a function that makes keys of rows -/
structure KeyFn (B : Bs) (P : PM) (K : Addr) (ks : List (Int × Int)) (KI : PM → Value → Value → Prop) : Prop where
  mono : ∀ P P' v x, P.le P' → KI P v x → KI P' v x
  make : ∀ P' s' x r, P.le P' → Wd B P' s' → RRow P' x r → Spec B (AA 461 1965) (.ref K) [x] P' s' (fun P'' v => KI P'' v x)
  typ : ∀ P' s' v x, P.le P' → Wd B P' s' → KI P' v x → Looks (mdl B) s'.heap (typeOf v) (.ref K)
  lt : ∀ P0 s0 P' L m own s' v u x y r r' (Q' : Bool → Shared → Prop), P.le P' → KI P' v x → KI P' u y → RRow P' x r → RRow P' y r' → St B P0 s0 P' L m own s' → (∀ P'' s'', P'.le P'' → St B P0 s0 P'' L m own s'' → Q' (lexLt ks r r') s'') → wpAny (mdl B) (AA 461 1965) (keyLt' oneType' v u) Q' no s'
noncomputable def keyE : Expr := match (bodyAt 22).drop 8 with
  | Stmt.Assign _ (Expr.Call _ _ (k :: _) _) _ :: _ => k.value
  | _ => .Constant .none 0 ⟨0, 0, 0, 0⟩
noncomputable abbrev Bs.k (B : Bs) (k' : Array Value) : Bs := { B with k72 := k' }
theorem Ok.k {B : Bs} (ok : Ok B) (k' : Array Value) : Ok (B.k k') := ⟨ok.X, ok.g, ok.b, ok.lim, ok.blt, ok.bm⟩
theorem lawC {B : Bs} {P0 P : PM} {s s1 : Shared} {L : Addr} {Q : Flow → Shared → Prop} {sh : Bool} (ok : Ok B) {v vn vp vk vc vt vr vb : Value} {T : Table} {ks : List (Int × Int)} (rt : RTb B sh P vt T) (rk : RKeys P vk ks) (hd : ∀ k ∈ ks, k.2 = 1 ∨ k.2 = -1) (h2 : 2 ≤ (rowsOf T).length)
    (hkey : ∀ (P1 : PM) (s1 : Shared) (Q1 : Value → Shared → Prop), P.le P1 → RKeys P1 vk ks →
      St B P0 s P1 L (asg ["script", "numbers", "pick", "keys", "runs", "back", "told", "due"] [some v, some vn, some vp, some vk, some vr, some vb, none, none]) [(L + 1 + 1 + 1 + 1, isCel none), (L + 1 + 1 + 1, isCel (some vt)), (L + 1 + 1, isCel (some vc)), (L + 1, isCel (some (.bool sh)))] s1 →
      (∀ k' P' K KI s2, P1.le P' → KeyFn (B.k k') P' K ks KI → St (B.k k') P0 s P' L (asg ["script", "numbers", "pick", "keys", "runs", "back", "told", "due"] [some v, some vn, some vp, some vk, some vr, some vb, none, none]) [(L + 1 + 1 + 1 + 1, isCel none), (L + 1 + 1 + 1, isCel (some vt)), (L + 1 + 1, isCel (some vc)), (L + 1, isCel (some (.bool sh)))] s2 → Q1 (.ref K) s2) →
      wpAny (mdl B) (AA 461 1963) (eval keyE (envC B 164 L)) Q1 no s1)
    (fe : FE (envC B 164 L) L ["script", "numbers", "pick", "keys", "runs", "back", "told", "due"]) (ce : CE (envC B 164 L) [("heads", L + 1 + 1 + 1 + 1), ("table", L + 1 + 1 + 1), ("calls", L + 1 + 1), ("short", L + 1)])
    (h : St B P0 s P L (asg ["script", "numbers", "pick", "keys", "runs", "back", "told", "due"] [some v, some vn, some vp, some vk, some vr, some vb, none, none]) [(L + 1 + 1 + 1 + 1, isCel none), (L + 1 + 1 + 1, isCel (some vt)), (L + 1 + 1, isCel (some vc)), (L + 1, isCel (some (.bool sh)))] s1)
    (next : ∀ k' P1 s2 vd idx, P.le P1 → List.Perm idx (List.range (rowsOf T).length) → idx.Pairwise (Pr (fun i j => lexLt ks (rAt (rowsOf T) i) (rAt (rowsOf T) j)) (· < ·)) → RLs RRow P1 vd (idx.map (rAt (rowsOf T))) → St (B.k k') P0 s P1 L (asg ["script", "numbers", "pick", "keys", "runs", "back", "told", "due"] [some v, some vn, some vp, some vk, some vr, some vb, some vd, none]) [(L + 1 + 1 + 1 + 1, isCel none), (L + 1 + 1 + 1, isCel (some vt)), (L + 1 + 1, isCel (some vc)), (L + 1, isCel (some (.bool sh)))] s2 →
      wpAny (mdl B) (AA 461 1963) (execs ((bodyAt 22).drop 9) (envC B 164 L)) Q no s2) :
    wpAny (mdl B) (AA 461 1963) (execs ((bodyAt 22).drop 8) (envC B 164 L)) Q no s1 := by
  have t6 := rt.le6
  have rl6 := rowsOf_len T
  refine seq ?_
  walk_at "h"
  with_reducible refine wpAny_Assign_Name ?_ (by with_unfolding_all rfl)
  walk_at "h"
  refine CallK ?_ (by with_unfolding_all rfl)
  refine ldb ok h fe (mgn_sorted ok) boot_sorted (by kernel_rfl) ?_
  with_reducible refine callWith_kw ?_ rfl rfl rfl rfl
  refine args_cons ?_
  refine callG ok h fe (mg142 ok) (by kernel_rfl) (by decide) (by with_unfolding_all rfl) (by with_unfolding_all rfl) (by with_unfolding_all rfl) ?_
  refine args_cons ?_
  refine ldc h fe ce (by walk_at "own") (by walk_at "own") ?_
  walk_at "h"
  with_reducible refine args_nil ?_
  refine ⟨h.fn ok (by kernel_rfl), ?_⟩
  refine callS h ((spec142 ok h.wd rt).room (by decide) (by decide)) fun P1 v1 s1 l1 r1 h => ?_
  obtain ⟨vx, rl, lr⟩ := id r1
  have len := lr.length
  walk_at "h"
  with_reducible refine args_nil ?_
  refine kws_cons ?_
  refine hkey P1 s1 _ l1 (rk.mono l1) h fun k' P2 K KI s1 l2 kf h => ?_
  refine kws_nil ?_
  have atR : ∀ (i : Nat) (x : Value), vx[i]? = some x → RRow P1 x (rAt (rowsOf T) i) := fun i x e => by
    obtain ⟨r, er, rr⟩ := lr.at e
    have : rAt (rowsOf T) i = r := by unfold rAt; rw [List.getD_eq_getElem?_getD, er]; rfl
    rw [this]; exact rr
  refine sortedSt (B := B.k k') (f := .ref K) (T := .ref K) (b := false) (c := fun i j => lexLt ks (rAt (rowsOf T) i) (rAt (rowsOf T) j)) h (rl.mono l2) (by lia) (by lia) (fun l => ksk_s1 _ _) (fun x => ksk_l1 _ _) (fun x => ksk_t1 _ _)
    (fun P' k v => ∃ x, vx[k]? = some x ∧ KI P' v x) (fun P P' k v l ⟨x, e, hx⟩ => ⟨x, e, kf.mono _ _ _ _ l hx⟩) ?_ ?_ rfl (by simp) ((swo_lex hd).comap fun i => rAt (rowsOf T) i) ?_ ?_
  · intro k x P3 s3 hx l3 wd3 hown
    exact (kf.make P3 s3 x _ l3 wd3 ((atR k x hx).mono (l2.trans l3))).mono fun P4 v4 h4 => ⟨x, hx, h4⟩
  · rintro P3 k v3 own3 s3 l3 ⟨x, ex, hx⟩ h3
    exact kf.typ _ _ _ _ l3 h3.wd hx
  · rintro i j P3 x y own3 s3 Q3 hi hj l3 ⟨x', ex, hx⟩ ⟨y', ey, hy⟩ h3 hQ
    exact kf.lt _ _ _ _ _ _ _ _ _ _ _ _ _ _ l3 hx hy ((atR i x' ex).mono (l2.trans l3)) ((atR j y' ey).mono (l2.trans l3)) h3 hQ
  · intro P3 D3 idx s3 l3 ip iw h
    obtain ⟨P4, o4, l4, e4, i4, h⟩ := h.freeze
    refine stv h fe (by walk_at "up") fun s1 h => ?_
    refine Nx.next (next k' P4 _ _ idx (l1.trans (l2.trans (l3.trans l4))) (by rw [← len]; exact ip) ?_ ⟨_, ⟨_, _, rfl, e4, i4⟩, ?_⟩ h)
    · simpa using iw
    · refine LR.of_at (by simp) fun n u r e8 e9 => ?_
      rw [List.getElem?_map] at e8 e9
      obtain ⟨i, ei, rfl⟩ := Option.map_eq_some_iff.mp e8
      rw [ei] at e9
      cases e9
      have hi := List.mem_range.mp (ip.mem_iff.mp (List.mem_of_getElem? ei))
      have : vx[i]? = some (vx.getD i Value.none) := by simp [List.getD, hi]
      exact (atR i _ this).mono (l2.trans (l3.trans l4))
open PySem PySem.W PySem.W.X PyProof.Rows PySem.Calls
set_option Elab.async false
set_option maxRecDepth 100000
set_option maxHeartbeats 4000000
section
variable {α : Type}
theorem get_nil (k : Str) : get ([] : List (Str × α)) k = none := rfl
theorem get_cons (c : Str × α) (cs : List (Str × α)) (k : Str) : get (c :: cs) k = if c.1 = k then some c.2 else get cs k := by
  unfold get
  rw [List.find?_cons]
  by_cases h : c.1 = k <;> simp [h]
theorem get_append (cs ds : List (Str × α)) (k : Str) : get (cs ++ ds) k = (get cs k).or (get ds k) := by
  induction cs with
  | nil => simp [get_nil]
  | cons c cs ih => rw [List.cons_append, get_cons, get_cons, ih]; split <;> simp
theorem get_isSome {cs : List (Str × α)} {k : Str} : (get cs k).isSome = true ↔ k ∈ cs.map (·.1) := by
  induction cs with
  | nil => simp [get_nil]
  | cons c cs ih =>
    rw [get_cons, List.map_cons, List.mem_cons]
    by_cases h : c.1 = k
    · simp [h]
    · rw [if_neg h, ih]; constructor
      · exact .inr
      · rintro (e | e)
        · exact absurd e.symm h
        · exact e
theorem get_none {cs : List (Str × α)} {k : Str} : get cs k = none ↔ k ∉ cs.map (·.1) := by
  rw [← get_isSome]; cases get cs k <;> simp
theorem any_mem {cs : List (Str × α)} {k : Str} : (cs.any fun c => decide (c.1 = k)) = true ↔ k ∈ cs.map (·.1) := by
  rw [List.any_eq_true, List.mem_map]
  constructor
  · rintro ⟨c, h, e⟩; exact ⟨c, h, of_decide_eq_true e⟩
  · rintro ⟨c, h, e⟩; exact ⟨c, h, decide_eq_true e⟩
theorem put_old {cs : List (Str × α)} {k : Str} {q : α} (h : k ∈ cs.map (·.1)) : put cs k q = cs.map (fun c => if c.1 = k then (c.1, q) else c) := by
  unfold put; rw [if_pos (any_mem.mpr h)]
theorem put_new {cs : List (Str × α)} {k : Str} {q : α} (h : k ∉ cs.map (·.1)) : put cs k q = cs ++ [(k, q)] := by
  unfold put; rw [if_neg (fun e => h (any_mem.mp e))]
theorem get_put (cs : List (Str × α)) (k : Str) (q : α) (x : Str) : get (put cs k q) x = if x = k then some q else get cs x := by
  by_cases h : k ∈ cs.map (·.1)
  · rw [put_old h]
    have : ∀ ds : List (Str × α), get (ds.map (fun c => if c.1 = k then (c.1, q) else c)) x = if x = k then (get ds x).map (fun _ => q) else get ds x := by
      intro ds
      induction ds with
      | nil => simp [get_nil]
      | cons c ds ih =>
        rw [List.map_cons, get_cons, get_cons, ih]
        by_cases hc : c.1 = k
        · by_cases hx : x = k
          · subst hx; simp [hc]
          · have : ¬ k = x := fun e => hx e.symm
            simp [hc, hx, this]
        · by_cases hx : c.1 = x
          · have : ¬ x = k := fun e => hc (hx.trans e)
            simp [hc, hx, this]
          · simp [hc, hx]
    rw [this]
    by_cases hx : x = k
    · subst hx
      obtain ⟨v, hv⟩ := Option.isSome_iff_exists.mp (get_isSome.mpr h)
      simp [hv]
    · simp [hx]
  · rw [put_new h, get_append, get_cons, get_nil]
    by_cases hx : x = k
    · subst hx; simp [get_none.mpr h]
    · have : ¬ k = x := fun e => hx e.symm
      simp [this, hx]
noncomputable def keys (cs : List (Str × α)) : List Str := cs.map (·.1)
noncomputable def addKey (ks : List Str) (k : Str) : List Str := if k ∈ ks then ks else ks ++ [k]
theorem keys_put (cs : List (Str × α)) (k : Str) (q : α) : keys (put cs k q) = addKey (keys cs) k := by
  unfold addKey keys
  by_cases h : k ∈ cs.map (·.1)
  · rw [put_old h, if_pos h, List.map_map]
    refine List.map_congr_left fun c _ => ?_
    show (if c.1 = k then (c.1, q) else c).1 = c.1
    split <;> rfl
  · rw [put_new h, if_neg h, List.map_append]; rfl
theorem addKey_nodup {ks : List Str} (h : ks.Nodup) (k : Str) : (addKey ks k).Nodup := by
  unfold addKey
  split
  · exact h
  · rename_i hk
    rw [List.nodup_append]
    exact ⟨h, by simp, fun a ha b hb e => by simp at hb; subst hb; subst e; exact hk ha⟩
theorem put_nodup {cs : List (Str × α)} (h : (keys cs).Nodup) (k : Str) (q : α) : (keys (put cs k q)).Nodup := by rw [keys_put]; exact addKey_nodup h k
theorem get_mem {cs : List (Str × α)} (nd : (keys cs).Nodup) {c : Str × α} (h : c ∈ cs) : get cs c.1 = some c.2 := by
  induction cs with
  | nil => exact nomatch h
  | cons d cs ih =>
    unfold keys at nd
    rw [List.map_cons, List.nodup_cons] at nd
    rw [get_cons]
    rcases List.mem_cons.mp h with rfl | h
    · simp
    · have : d.1 ≠ c.1 := fun e => nd.1 (e ▸ List.mem_map.mpr ⟨c, h, rfl⟩)
      rw [if_neg this]; exact ih nd.2 h
/-- dicts that give the same are the same -/
theorem sameD_of {E : α → α → Prop} {cs ds : List (Str × α)} (n1 : (keys cs).Nodup) (n2 : (keys ds).Nodup) (h : ∀ k, (∀ q, get cs k = some q → ∃ q', get ds k = some q' ∧ E q q') ∧ (get cs k = none → get ds k = none)) : SameD E cs ds := by
  refine ⟨?_, fun c hc => (h c.1).1 _ (get_mem n1 hc)⟩
  have e : ∀ k, k ∈ keys cs ↔ k ∈ keys ds := fun k => by
    unfold keys
    rw [← get_isSome, ← get_isSome]
    obtain ⟨a, b⟩ := h k
    cases hk : get cs k with
    | none => simp [b hk]
    | some q => obtain ⟨q', e, _⟩ := a q hk; simp [e]
  have p : (keys cs).Perm (keys ds) := (List.perm_ext_iff_of_nodup n1 n2).mpr e
  have := p.length_eq
  unfold keys at this
  rwa [List.length_map, List.length_map] at this
theorem toD_nodup (l : List (Str × α)) : (keys (toD l)).Nodup := by
  unfold toD
  have : ∀ (l acc : List (Str × α)), (keys acc).Nodup → (keys (l.foldl (fun acc c => put acc c.1 c.2) acc)).Nodup := by
    intro l
    induction l with
    | nil => intro acc h; exact h
    | cons c l ih => intro acc h; exact ih _ (put_nodup h _ _)
  exact this l [] (by simp [keys])
theorem toD_self {l : List (Str × α)} (nd : (keys l).Nodup) : toD l = l := by
  unfold toD
  have : ∀ (l acc : List (Str × α)), (keys (acc ++ l)).Nodup → l.foldl (fun acc c => put acc c.1 c.2) acc = acc ++ l := by
    intro l
    induction l with
    | nil => intro acc _; simp
    | cons c l ih =>
      intro acc h
      rw [List.foldl_cons]
      have hn : c.1 ∉ acc.map (·.1) := fun hm => by
        unfold keys at h
        rw [List.map_append, List.nodup_append] at h
        exact h.2.2 _ hm _ (List.mem_map.mpr ⟨c, .head _, rfl⟩) rfl
      rw [put_new hn, ih _ (by rw [List.append_assoc]; exact h), List.append_assoc]
      rfl
  have := this l [] (by simpa using nd)
  simpa using this
end
open PySem PySem.W PySem.W.X PyProof.Rows PySem.Calls
set_option Elab.async false
set_option maxRecDepth 100000
set_option maxHeartbeats 4000000
noncomputable def comb {α : Type} (f : α → α → α) : Option α → Option α → Option α
  | none, y => y
  | some a, none => some a
  | some a, some b => some (f a b)
section
variable {α : Type} {f : α → α → α}
theorem comb_none (x : Option α) : comb f x none = x := by cases x <;> rfl
theorem comb_comm (hc : ∀ a b, f a b = f b a) (x y : Option α) : comb f x y = comb f y x := by cases x <;> cases y <;> simp [comb, hc]
theorem comb_assoc (ha : ∀ a b c, f (f a b) c = f a (f b c)) (x y z : Option α) : comb f (comb f x y) z = comb f x (comb f y z) := by cases x <;> cases y <;> cases z <;> simp [comb, ha]
end
theorem qadd_comm (a b : Quad) : a.add b = b.add a := by simp only [Quad.add, Prod.mk.injEq]; lia
theorem qadd_assoc (a b c : Quad) : (a.add b).add c = a.add (b.add c) := by simp only [Quad.add, Prod.mk.injEq]; lia
noncomputable def tot (cs : Callers) : Int := (cs.map (·.2.1)).sum
theorem tot_append (cs ds : Callers) : tot (cs ++ ds) = tot cs + tot ds := by unfold tot; rw [List.map_append, List.sum_append]
theorem tot_put {cs : Callers} (nd : (keys cs).Nodup) (k : Str) (q : Quad) : tot (put cs k q) = tot cs - ((get cs k).map (·.1)).getD 0 + q.1 := by
  by_cases h : k ∈ cs.map (·.1)
  · rw [put_old h]
    have : ∀ ds : Callers, (keys ds).Nodup → tot (ds.map (fun c => if c.1 = k then (c.1, q) else c)) = if k ∈ keys ds then tot ds - ((get ds k).map (·.1)).getD 0 + q.1 else tot ds := by
      intro ds
      induction ds with
      | nil => intro _; simp [keys]
      | cons c ds ih =>
        intro nd
        have nd' := nd
        unfold keys at nd
        rw [List.map_cons, List.nodup_cons] at nd
        have ih := ih nd.2
        have e1 : ∀ (x : Str × Quad) (l : Callers), tot (x :: l) = x.2.1 + tot l := fun x l => by simp [tot]
        rw [List.map_cons, e1, e1, ih, get_cons]
        by_cases hc : c.1 = k
        · have hn : k ∉ keys ds := fun hm => nd.1 (hc ▸ hm)
          have hm : k ∈ keys (c :: ds) := by simp [keys, hc]
          rw [if_pos hc, if_neg hn, if_pos hm, if_pos hc]
          show q.1 + tot ds = c.2.1 + tot ds - c.2.1 + q.1
          lia
        · have : k ∈ keys (c :: ds) ↔ k ∈ keys ds := by
            unfold keys; rw [List.map_cons, List.mem_cons]
            exact ⟨fun h => h.elim (fun e => absurd e.symm hc) id, .inr⟩
          rw [if_neg hc, if_neg hc]
          by_cases hm : k ∈ keys ds
          · rw [if_pos hm, if_pos (this.mpr hm)]; lia
          · rw [if_neg hm, if_neg (fun h => hm (this.mp h))]
    rw [this cs nd, if_pos (show k ∈ keys cs from h)]
  · rw [put_new h, tot_append, get_none.mpr h]
    simp [tot]
theorem addC_cons (t : Callers) (c : Str × Quad) (s : Callers) : addC t (c :: s) = addC (put t c.1 ((comb Quad.add (get t c.1) (some c.2)).getD c.2)) s := by
  unfold addC
  rw [List.foldl_cons]
  congr 1
  cases h : get t c.1 with
  | none => rfl
  | some q => simp only [comb]; rw [qadd_comm]; rfl
theorem addC_ok {t s : Callers} (nt : (keys t).Nodup) (ns : (keys s).Nodup) : (keys (addC t s)).Nodup ∧ (∀ k, get (addC t s) k = comb Quad.add (get t k) (get s k)) ∧ tot (addC t s) = tot t + tot s := by
  induction s generalizing t with
  | nil => exact ⟨nt, fun k => by rw [get_nil, comb_none]; rfl, by simp [addC, tot]⟩
  | cons c s ih =>
    have ns' := ns
    unfold keys at ns
    rw [List.map_cons, List.nodup_cons] at ns
    rw [addC_cons]
    obtain ⟨a, b, d⟩ := ih (put_nodup nt c.1 ((comb Quad.add (get t c.1) (some c.2)).getD c.2)) ns.2
    refine ⟨a, fun k => ?_, ?_⟩
    · rw [b, get_put, get_cons]
      by_cases hk : k = c.1
      · subst hk
        have : get s c.1 = none := get_none.mpr ns.1
        rw [if_pos rfl, if_pos rfl, this, comb_none]
        cases get t c.1 <;> rfl
      · rw [if_neg hk, if_neg (fun e => hk e.symm)]
    · rw [d, tot_put nt]
      have e1 : tot (c :: s) = c.2.1 + tot s := by simp [tot]
      rw [e1]
      cases get t c.1 with
      | none => simp [comb]; lia
      | some q => simp only [comb, Option.map_some, Option.getD_some, Quad.add]; lia
noncomputable abbrev Ab := (Quad × Int) × (Str → Option Quad)
noncomputable def abAdd (a b : Ab) : Ab := ((a.1.1.add b.1.1, a.1.2 + b.1.2), fun n => comb Quad.add (a.2 n) (b.2 n))
theorem abAdd_comm (a b : Ab) : abAdd a b = abAdd b a := by
  unfold abAdd
  rw [qadd_comm, Int.add_comm]
  congr 1
  funext n
  exact comb_comm qadd_comm _ _
theorem abAdd_assoc (a b c : Ab) : abAdd (abAdd a b) c = abAdd a (abAdd b c) := by
  unfold abAdd
  dsimp only
  rw [qadd_assoc, Int.add_assoc]
  congr 1
  funext n
  exact comb_assoc qadd_assoc _ _ _
noncomputable def absE (e : Entry) : Ab := ((e.1, tot e.2), get e.2)
noncomputable def EOk (e : Entry) : Prop := (keys e.2).Nodup
theorem absE_add {t s : Entry} (ht : EOk t) (hs : EOk s) : absE (addE t s) = abAdd (absE t) (absE s) ∧ EOk (addE t s) := by
  obtain ⟨a, b, c⟩ := addC_ok ht hs
  refine ⟨?_, a⟩
  unfold absE abAdd addE
  dsimp only
  rw [qadd_comm, c]
  congr 1
  funext n
  exact b n
noncomputable abbrev Fn := Str → Option Ab
noncomputable def plus (x y : Fn) : Fn := fun k => comb abAdd (x k) (y k)
theorem plus_comm (x y : Fn) : plus x y = plus y x := by funext k; exact comb_comm abAdd_comm _ _
theorem plus_assoc (x y z : Fn) : plus (plus x y) z = plus x (plus y z) := by funext k; exact comb_assoc abAdd_assoc _ _ _
noncomputable def fn0 : Fn := fun _ => none
theorem plus_zero (x : Fn) : plus x fn0 = x := by funext k; exact comb_none _
theorem zero_plus (x : Fn) : plus fn0 x = x := rfl
noncomputable def single (k : Str) (a : Ab) : Fn := fun x => if x = k then some a else none
noncomputable def absT (T : Table) : Fn := fun k => (get T k).map absE
structure TOk (T : Table) : Prop where
  nd : (keys T).Nodup
  en : ∀ c ∈ T, EOk c.2
theorem TOk.get {T : Table} (h : TOk T) {k : Str} {e : Entry} (hk : Mine.get T k = some e) : EOk e := by
  unfold Mine.get at hk
  obtain ⟨c, hc, rfl⟩ := Option.map_eq_some_iff.mp hk
  exact h.en c (List.mem_of_find?_eq_some hc)
theorem put_mem {α : Type} {cs : List (Str × α)} {k : Str} {q : α} {c : Str × α} (h : c ∈ put cs k q) : c ∈ cs ∨ c.2 = q := by
  unfold put at h
  split at h
  · obtain ⟨d, hd, rfl⟩ := List.mem_map.mp h
    split
    · exact .inr rfl
    · exact .inl hd
  · rcases List.mem_append.mp h with h | h
    · exact .inl h
    · simp at h; subst h; exact .inr rfl
theorem abAdd_zero (a : Ab) : abAdd (absE ((0, 0, 0, 0), [])) a = a := by
  obtain ⟨⟨⟨a1, a2, a3, a4⟩, t⟩, g⟩ := a
  simp [abAdd, absE, tot, Quad.add, get_nil, comb]
theorem absT_enterT {T : Table} (h : TOk T) {k : Str} {e : Entry} (he : EOk e) : absT (enterT T k e) = plus (absT T) (single k (absE e)) ∧ TOk (enterT T k e) := by
  have z : EOk ((get T k).getD ((0, 0, 0, 0), [])) := by
    cases hk : get T k with
    | none => show (keys ([] : Callers)).Nodup; simp [keys]
    | some e' => exact h.get hk
  obtain ⟨a, b⟩ := absE_add z he
  refine ⟨?_, put_nodup h.nd _ _, fun c hc => ?_⟩
  · funext x
    unfold absT enterT plus single
    rw [get_put]
    by_cases hx : x = k
    · subst hx
      rw [if_pos rfl, if_pos rfl]
      cases hk : get T x with
      | none =>
        rw [hk] at a
        show some (absE _) = comb abAdd ((get T x).map absE) (some (absE e))
        rw [a, hk]
        show some (abAdd (absE ((0, 0, 0, 0), [])) (absE e)) = some (absE e)
        rw [abAdd_zero]
      | some e' =>
        rw [hk] at a
        show some (absE _) = comb abAdd ((get T x).map absE) (some (absE e))
        rw [a, hk]; rfl
    · rw [if_neg hx, if_neg hx, comb_none]
  · rcases put_mem hc with hc | hc
    · exact h.en c hc
    · rw [hc]; exact b
noncomputable def sumS (ps : List (Str × Entry)) : Fn := ps.foldr (fun p acc => plus (single p.1 (absE p.2)) acc) fn0
theorem absT_enterAll {T : Table} (h : TOk T) {ps : List (Str × Entry)} (hp : ∀ p ∈ ps, EOk p.2) : absT (enterAll T ps) = plus (absT T) (sumS ps) ∧ TOk (enterAll T ps) := by
  induction ps generalizing T with
  | nil => exact ⟨(plus_zero _).symm, h⟩
  | cons p ps ih =>
    obtain ⟨a, b⟩ := absT_enterT h (k := p.1) (hp p (.head _))
    obtain ⟨c, d⟩ := ih b fun q hq => hp q (.tail _ hq)
    refine ⟨?_, d⟩
    show absT (enterAll (enterT T p.1 p.2) ps) = _
    rw [c, a, plus_assoc]; rfl
theorem sumS_table {U : Table} (nd : (keys U).Nodup) : sumS U = absT U := by
  induction U with
  | nil => rfl
  | cons c U ih =>
    unfold keys at nd
    rw [List.map_cons, List.nodup_cons] at nd
    show plus (single c.1 (absE c.2)) (sumS U) = _
    rw [ih nd.2]
    funext k
    unfold plus single absT
    rw [get_cons]
    by_cases hk : c.1 = k
    · subst hk
      rw [if_pos rfl, if_pos rfl, get_none.mpr nd.1]; rfl
    · rw [if_neg hk, if_neg (fun e => hk e.symm)]; rfl
theorem TOk.nil : TOk [] := ⟨by simp [keys], fun _ h => nomatch h⟩
theorem absT_add {T U : Table} (h : TOk T) (hu : TOk U) : absT (enterAll T U) = plus (absT T) (absT U) ∧ TOk (enterAll T U) := by
  obtain ⟨a, b⟩ := absT_enterAll h (ps := U) hu.en
  rw [sumS_table hu.nd] at a
  exact ⟨a, b⟩
theorem EntE.of {sh : Bool} {a b : Entry} (ha : EOk a) (hb : EOk b) (h : absE a = absE b) : EntE sh a b := by
  unfold absE at h
  simp only [Prod.mk.injEq] at h
  refine ⟨h.1.1, sameD_of ha hb fun k => ⟨fun q e => ?_, fun e => ?_⟩⟩
  · have := congrFun h.2 k
    rw [e] at this
    refine ⟨q, this.symm, ?_⟩
    cases sh <;> exact rfl
  · have := congrFun h.2 k
    rw [e] at this
    exact this.symm
theorem sameT {sh : Bool} {T U : Table} (hT : TOk T) (hU : TOk U) (h : absT T = absT U) : SameD (EntE sh) T U := by
  refine sameD_of hT.nd hU.nd fun k => ?_
  have := congrFun h k
  unfold absT at this
  refine ⟨fun q e => ?_, fun e => ?_⟩
  · rw [e] at this
    obtain ⟨q', e', h'⟩ := Option.map_eq_some_iff.mp this.symm
    exact ⟨q', e', .of (hT.get e) (hU.get e') h'.symm⟩
  · rw [e] at this
    exact Option.map_eq_none_iff.mp this.symm
theorem runAt_ok {cs : List Cl} {r : Nat} : absT (runAt cs r) = sumS (pairsOf cs r) ∧ TOk (runAt cs r) := by
  have := absT_enterAll TOk.nil (ps := pairsOf cs r) fun p hp => by
    unfold pairsOf at hp
    obtain ⟨c, _, rfl⟩ := List.mem_map.mp hp
    show (keys (entryOf c).2).Nodup
    unfold entryOf
    dsimp only
    split <;> simp [keys]
  exact this
theorem table_ok (cs : List Cl) : absT (addAll (runsOf cs)) = plus (plus (sumS (pairsOf cs 0)) (sumS (pairsOf cs 1))) (sumS (pairsOf cs 2)) ∧ TOk (addAll (runsOf cs)) := by
  obtain ⟨a0, b0⟩ := runAt_ok (cs := cs) (r := 0)
  obtain ⟨a1, b1⟩ := runAt_ok (cs := cs) (r := 1)
  obtain ⟨a2, b2⟩ := runAt_ok (cs := cs) (r := 2)
  obtain ⟨c0, d0⟩ := absT_add TOk.nil b0
  obtain ⟨c1, d1⟩ := absT_add d0 b1
  obtain ⟨c2, d2⟩ := absT_add d1 b2
  refine ⟨?_, d2⟩
  show absT (enterAll (enterAll (enterAll [] (runAt cs 0)) (runAt cs 1)) (runAt cs 2)) = _
  rw [c2, c1, c0, a0, a1, a2]; rfl
theorem back_ok (cs : List Cl) : absT (addAll (runsOf cs).reverse) = absT (addAll (runsOf cs)) ∧ TOk (addAll (runsOf cs).reverse) := by
  obtain ⟨a0, b0⟩ := runAt_ok (cs := cs) (r := 0)
  obtain ⟨a1, b1⟩ := runAt_ok (cs := cs) (r := 1)
  obtain ⟨a2, b2⟩ := runAt_ok (cs := cs) (r := 2)
  obtain ⟨c0, d0⟩ := absT_add TOk.nil b2
  obtain ⟨c1, d1⟩ := absT_add d0 b1
  obtain ⟨c2, d2⟩ := absT_add d1 b0
  refine ⟨?_, d2⟩
  rw [(table_ok cs).1]
  show absT (enterAll (enterAll (enterAll [] (runAt cs 2)) (runAt cs 1)) (runAt cs 0)) = _
  rw [c2, c1, c0, a0, a1, a2]
  show plus (plus (plus fn0 _) _) _ = _
  rw [zero_plus, plus_comm, plus_comm (sumS (pairsOf cs ((2 : Nat) : Int))), ← plus_assoc]; rfl
theorem pure4 {sh : Bool} (cs : List Cl) : SameD (EntE sh) (addAll (runsOf cs).reverse) (addAll (runsOf cs)) := sameT (back_ok cs).2 (table_ok cs).2 (back_ok cs).1
open PySem PySem.W PySem.W.X PyProof.Rows PySem.Calls
set_option Elab.async false
set_option maxRecDepth 100000
set_option maxHeartbeats 4000000
noncomputable def pr (c : Cl) : Str × Entry := (nameAt c.f, entryOf c)
theorem sumS_cons (p : Str × Entry) (ps : List (Str × Entry)) : sumS (p :: ps) = plus (single p.1 (absE p.2)) (sumS ps) := rfl
theorem pairsOf_cons (c : Cl) (cs : List Cl) (r : Int) : pairsOf (c :: cs) r = if c.r == r then pr c :: pairsOf cs r else pairsOf cs r := by
  unfold pairsOf
  rw [List.filter_cons]
  split <;> rfl
/-- whatever run a call was in -/
theorem sum_runs {cs : List Cl} (hr : ∀ c ∈ cs, c.r = 0 ∨ c.r = 1 ∨ c.r = 2) : plus (plus (sumS (pairsOf cs 0)) (sumS (pairsOf cs 1))) (sumS (pairsOf cs 2)) = sumS (cs.map pr) := by
  induction cs with
  | nil => rfl
  | cons c cs ih =>
    have ih := ih fun d hd => hr d (.tail _ hd)
    rw [List.map_cons, sumS_cons, pairsOf_cons, pairsOf_cons, pairsOf_cons, ← ih]
    rcases hr c (.head _) with e | e | e
    · rw [e, if_pos (by decide), if_neg (by decide), if_neg (by decide), sumS_cons, plus_assoc, plus_assoc, plus_assoc]
    · rw [e, if_neg (by decide), if_pos (by decide), if_neg (by decide), sumS_cons]
      rw [← plus_assoc (sumS (pairsOf cs 0)), plus_comm (sumS (pairsOf cs 0)) (single _ _), plus_assoc (single _ _), plus_assoc (single _ _)]
    · rw [e, if_neg (by decide), if_neg (by decide), if_pos (by decide), sumS_cons]
      rw [← plus_assoc, plus_comm (plus _ _) (single _ _), plus_assoc]
noncomputable def sumAb : List Ab → Option Ab
  | [] => none
  | a :: l => comb abAdd (some a) (sumAb l)
theorem sumS_at (cs : List Cl) (k : Str) : sumS (cs.map pr) k = sumAb ((cs.filter fun c => decide (nameAt c.f = k)).map fun c => absE (entryOf c)) := by
  induction cs with
  | nil => rfl
  | cons c cs ih =>
    rw [List.map_cons, sumS_cons, List.filter_cons]
    unfold plus single
    rw [ih]
    by_cases h : nameAt c.f = k
    · rw [if_pos (show k = (pr c).1 from h.symm), if_pos (decide_eq_true h), List.map_cons]; rfl
    · rw [if_neg (fun e : k = (pr c).1 => h e.symm), if_neg (by simpa using h)]; rfl
noncomputable def gn (n : Str) (c : Cl) : Bool := decide (c.g < 6) && decide (nameAt c.g = n)
noncomputable def optS (l : List Cl) : Option Quad := if l = [] then none else some (sumsOf l)
noncomputable def calS (l : List Cl) (n : Str) : Option Quad := optS (l.filter (gn n))
theorem sumsOf_cons (c : Cl) (l : List Cl) : sumsOf (c :: l) = Quad.add (1, c.p, c.o, c.o + c.x) (sumsOf l) := by
  unfold sumsOf Quad.add
  simp only [List.length_cons, List.map_cons, List.sum_cons, Prod.mk.injEq]
  refine ⟨?_, trivial, trivial, ?_⟩
  · rw [Int.natCast_add]; show _ + 1 = _; lia
  · lia
theorem sumsOf_nil : sumsOf [] = (0, 0, 0, 0) := rfl
theorem optS_cons (c : Cl) (l : List Cl) : optS (c :: l) = comb Quad.add (some (1, c.p, c.o, c.o + c.x)) (optS l) := by
  unfold optS
  rw [if_neg (List.cons_ne_nil _ _), sumsOf_cons]
  split
  · rename_i e
    rw [e, sumsOf_nil]
    simp [comb, Quad.add]
  · rfl
theorem entry_get (c : Cl) (n : Str) : get (entryOf c).2 n = if gn n c = true then some (1, c.p, c.o, c.o + c.x) else none := by
  unfold entryOf gn
  by_cases hg : c.g < 6
  · by_cases hn : nameAt c.g = n
    · simp [hg, hn, get_cons]
    · simp [hg, hn, get_cons, get_nil]
  · simp [hg, get_nil]
theorem calS_cons (c : Cl) (l : List Cl) (n : Str) : calS (c :: l) n = comb Quad.add (get (entryOf c).2 n) (calS l n) := by
  unfold calS
  rw [List.filter_cons, entry_get]
  cases h : gn n c with
  | true => rw [if_pos rfl, if_pos rfl, optS_cons]
  | false => rw [if_neg Bool.false_ne_true, if_neg Bool.false_ne_true]; rfl
noncomputable def qP (l : List Cl) : Quad := flip2 (sumsOf l)
theorem qP_cons (c : Cl) (l : List Cl) : qP (c :: l) = (entryOf c).1.add (qP l) := by
  unfold qP flip2
  rw [sumsOf_cons]
  simp [Quad.add, entryOf]
noncomputable def cnt (l : List Cl) : Int := (l.filter fun c => decide (c.g < 6)).length
theorem cnt_cons (c : Cl) (l : List Cl) : cnt (c :: l) = tot (entryOf c).2 + cnt l := by
  unfold cnt entryOf tot
  rw [List.filter_cons]
  by_cases hg : c.g < 6
  · rw [if_pos (by simpa using hg)]; simp [hg]; lia
  · rw [if_neg (by simpa using hg)]; simp [hg]
theorem sumAb_eq (l : List Cl) : sumAb (l.map fun c => absE (entryOf c)) = if l = [] then none else some ((qP l, cnt l), calS l) := by
  induction l with
  | nil => rfl
  | cons c l ih =>
    rw [List.map_cons, if_neg (by simp)]
    unfold sumAb
    rw [ih]
    have e3 : (fun n => comb Quad.add (get (entryOf c).2 n) (calS l n)) = calS (c :: l) := by funext n; exact (calS_cons c l n).symm
    split
    · rename_i e
      subst e
      show some (absE (entryOf c)) = _
      unfold absE
      rw [qP_cons, cnt_cons, ← e3]
      have e4 : (fun n => comb Quad.add (get (entryOf c).2 n) (calS [] n)) = get (entryOf c).2 := by funext n; exact comb_none _
      have e5 : (entryOf c).1.add (qP []) = (entryOf c).1 := by simp [qP, sumsOf_nil, flip2, Quad.add]
      rw [e4, e5]
      show _ = some (((entryOf c).1, tot (entryOf c).2 + 0), _)
      rw [Int.add_zero]
    · show some (abAdd (absE (entryOf c)) _) = _
      unfold abAdd absE
      dsimp only
      rw [qP_cons, cnt_cons, ← e3]
/-- names and their numbers -/
theorem nameAt_inj {i j : Int} (hi : 0 ≤ i ∧ i < 6) (hj : 0 ≤ j ∧ j < 6) (h : nameAt i = nameAt j) : i = j := by
  have all : ∀ a ∈ List.range 6, ∀ b ∈ List.range 6, nameAt (a : Int) = nameAt (b : Int) → a = b := by decide +kernel
  have ei : ((i.toNat : Nat) : Int) = i := by lia
  have ej : ((j.toNat : Nat) : Int) = j := by lia
  have e := all i.toNat (List.mem_range.mpr (by lia)) j.toNat (List.mem_range.mpr (by lia)) (by rw [ei, ej]; exact h)
  lia
noncomputable def gk (k : Nat) (n : Str) (c : Cl) : Bool := decide (c.g < (k : Int)) && decide (nameAt c.g = n)
theorem get_callersDue {mine : List Cl} (hg : ∀ c ∈ mine, 0 ≤ c.g) (n : Str) : ∀ k, k ≤ 6 → get (callersDue mine k) n = optS (mine.filter (gk k n)) := by
  intro k
  induction k with
  | zero =>
    intro _
    have : mine.filter (gk 0 n) = [] := by
      rw [List.filter_eq_nil_iff]
      intro c hc
      have := hg c hc
      unfold gk
      simp; lia
    rw [this]; rfl
  | succ k ih =>
    intro hk
    have ih := ih (by lia)
    rw [callersDue_succ]
    by_cases e : nameAt (k : Int) = n
    · have k1 : mine.filter (gk (k + 1) n) = mine.filter (·.g == (k : Int)) := by
        refine List.filter_congr fun c hc => ?_
        have h0 := hg c hc
        unfold gk
        rw [Bool.eq_iff_iff]
        simp only [Bool.and_eq_true, decide_eq_true_eq, beq_iff_eq]
        constructor
        · rintro ⟨a, b⟩
          exact nameAt_inj ⟨h0, by lia⟩ ⟨by lia, by lia⟩ (b.trans e.symm)
        · intro a
          exact ⟨by lia, by rw [a]; exact e⟩
      have k2 : mine.filter (gk k n) = [] := by
        rw [List.filter_eq_nil_iff]
        intro c hc hcc
        unfold gk at hcc
        simp only [Bool.and_eq_true, decide_eq_true_eq] at hcc
        have := nameAt_inj ⟨hg c hc, by lia⟩ ⟨by lia, by lia⟩ (hcc.2.trans e.symm)
        lia
      rw [k1]
      rw [k2] at ih
      unfold optS
      split
      · exact ih
      · rw [get_put, if_pos e.symm]
    · have k3 : mine.filter (gk (k + 1) n) = mine.filter (gk k n) := by
        refine List.filter_congr fun c hc => ?_
        unfold gk
        rw [Bool.eq_iff_iff]
        simp only [Bool.and_eq_true, decide_eq_true_eq]
        constructor
        · rintro ⟨a, b⟩
          refine ⟨?_, b⟩
          have : c.g ≠ (k : Int) := fun q => e (q ▸ b)
          lia
        · rintro ⟨a, b⟩
          exact ⟨by lia, b⟩
      rw [k3]
      split
      · exact ih
      · rw [get_put, if_neg (fun q => e q.symm)]; exact ih
theorem get_callersDue6 {mine : List Cl} (hg : ∀ c ∈ mine, 0 ≤ c.g) : get (callersDue mine 6) = calS mine := by
  funext n
  exact get_callersDue hg n 6 (Nat.le_refl _)
theorem callersDue_nodup (mine : List Cl) : ∀ k, (keys (callersDue mine k)).Nodup
  | 0 => by simp [callersDue, keys]
  | k + 1 => by
    rw [callersDue_succ]
    split
    · exact callersDue_nodup mine k
    · exact put_nodup (callersDue_nodup mine k) _ _
open PySem PySem.W PySem.W.X PyProof.Rows PySem.Calls
set_option Elab.async false
set_option maxRecDepth 100000
set_option maxHeartbeats 4000000
noncomputable def addKeys (ks l : List Str) : List Str := l.foldl addKey ks
theorem addKeys_append (ks l l' : List Str) : addKeys ks (l ++ l') = addKeys (addKeys ks l) l' := List.foldl_append ..
theorem addKey_mem {ks : List Str} {k x : Str} : x ∈ addKey ks k ↔ x ∈ ks ∨ x = k := by
  unfold addKey
  split
  · rename_i h
    constructor
    · exact .inl
    · rintro (h' | rfl)
      · exact h'
      · exact h
  · simp
theorem addKeys_mem {ks l : List Str} {x : Str} : x ∈ addKeys ks l ↔ x ∈ ks ∨ x ∈ l := by
  induction l generalizing ks with
  | nil => simp [addKeys]
  | cons k l ih =>
    show x ∈ addKeys (addKey ks k) l ↔ _
    rw [ih, addKey_mem, List.mem_cons, or_assoc]
theorem addKeys_addKey (ks acc : List Str) (k : Str) : addKeys ks (addKey acc k) = addKey (addKeys ks acc) k := by
  by_cases h : k ∈ acc
  · rw [show addKey acc k = acc from if_pos h, show addKey (addKeys ks acc) k = addKeys ks acc from if_pos (addKeys_mem.mpr (.inr h))]
  · rw [show addKey acc k = acc ++ [k] from if_neg h, addKeys_append]; rfl
theorem addKeys_addKeys (ks acc l : List Str) : addKeys ks (addKeys acc l) = addKeys (addKeys ks acc) l := by
  induction l generalizing acc with
  | nil => rfl
  | cons k l ih =>
    show addKeys ks (addKeys (addKey acc k) l) = _
    rw [ih, addKeys_addKey]; rfl
theorem keys_enterAll (T : Table) (ps : List (Str × Entry)) : keys (enterAll T ps) = addKeys (keys T) (keys ps) := by
  induction ps generalizing T with
  | nil => rfl
  | cons p ps ih =>
    show keys (enterAll (enterT T p.1 p.2) ps) = _
    rw [ih]
    unfold enterT
    rw [keys_put]; rfl
theorem keys_table (cs : List Cl) : keys (addAll (runsOf cs)) = addKeys (addKeys (addKeys [] (keys (pairsOf cs 0))) (keys (pairsOf cs 1))) (keys (pairsOf cs 2)) := by
  show keys (enterAll (enterAll (enterAll [] (runAt cs 0)) (runAt cs 1)) (runAt cs 2)) = _
  rw [keys_enterAll, keys_enterAll, keys_enterAll]
  unfold runAt
  rw [keys_enterAll, keys_enterAll, keys_enterAll]
  show addKeys (addKeys (addKeys [] (addKeys [] _)) (addKeys [] _)) (addKeys [] _) = _
  rw [addKeys_addKeys, addKeys_addKeys, addKeys_addKeys]; rfl
noncomputable def in6 (i : Int) : Prop := 0 ≤ i ∧ i < 6
theorem inNums_iff {k : Int} {l : List Int} : KTD.inNums k l = true ↔ k ∈ l := by
  induction l with
  | nil => simp [KTD.inNums]
  | cons x l ih => simp [KTD.inNums, ih]
theorem ordRun_names {cs : List Cl} (hc : ∀ c ∈ cs, in6 c.f) {o : List Int} (ho : ∀ i ∈ o, in6 i) (run : Int) : (ordRun cs o run).map nameAt = addKeys (o.map nameAt) (keys (pairsOf cs run)) ∧ ∀ i ∈ ordRun cs o run, in6 i := by
  refine ⟨?_, ordRun_mem hc ho⟩
  induction cs generalizing o with
  | nil => rfl
  | cons c cs ih =>
    have hcf := hc c (.head _)
    have step : (ordStep run o c).map nameAt = if c.r == run then addKey (o.map nameAt) (nameAt c.f) else o.map nameAt := by
      unfold ordStep
      cases hr : c.r == run with
      | false => simp
      | true =>
        rw [Bool.true_and, if_pos rfl]
        unfold addKey
        have iff : nameAt c.f ∈ o.map nameAt ↔ c.f ∈ o := by
          rw [List.mem_map]
          constructor
          · rintro ⟨i, hi, e⟩
            have := nameAt_inj (ho i hi) hcf e
            exact this ▸ hi
          · exact fun h => ⟨_, h, rfl⟩
        by_cases hm : c.f ∈ o
        · rw [inNums_iff.mpr hm, if_pos (iff.mpr hm)]; rfl
        · have : KTD.inNums c.f o = false := by
            cases h : KTD.inNums c.f o with
            | false => rfl
            | true => exact absurd (inNums_iff.mp h) hm
          rw [this, if_neg (fun h => hm (iff.mp h))]
          simp
    have ho' : ∀ i ∈ ordStep run o c, in6 i := by
      intro i hi
      unfold ordStep at hi
      split at hi
      · rcases List.mem_append.mp hi with hi | hi
        · exact ho i hi
        · simp at hi; subst hi; exact hcf
      · exact ho i hi
    show (ordRun cs (ordStep run o c) run).map nameAt = _
    rw [ih (fun d hd => hc d (.tail _ hd)) ho', step, pairsOf_cons]
    split <;> rfl
theorem order_names {cs : List Cl} (hc : ∀ c ∈ cs, in6 c.f) : (orderOf cs 3).map nameAt = keys (addAll (runsOf cs)) ∧ ∀ i ∈ orderOf cs 3, in6 i := by
  rw [keys_table, orderOf_succ, orderOf_succ, orderOf_succ]
  obtain ⟨a0, b0⟩ := ordRun_names hc (o := orderOf cs 0) (fun _ h => by simp [orderOf] at h) ((0 : Nat) : Int)
  obtain ⟨a1, b1⟩ := ordRun_names hc b0 ((1 : Nat) : Int)
  obtain ⟨a2, b2⟩ := ordRun_names hc b1 ((2 : Nat) : Int)
  refine ⟨?_, b2⟩
  rw [a2, a1, a0]; rfl
/-- what the log is made of -/
structure Log (cs : List Cl) : Prop where
  f : ∀ c ∈ cs, in6 c.f
  g : ∀ c ∈ cs, 0 ≤ c.g
  r : ∀ c ∈ cs, c.r = 0 ∨ c.r = 1 ∨ c.r = 2
noncomputable def mineOf (cs : List Cl) (f : Int) : List Cl := cs.filter (·.f == f)
theorem mine_names {cs : List Cl} (h : Log cs) {f : Int} (hf : in6 f) : (cs.filter fun c => decide (nameAt c.f = nameAt f)) = mineOf cs f := by
  refine List.filter_congr fun c hc => ?_
  rw [Bool.eq_iff_iff]
  simp only [decide_eq_true_eq, beq_iff_eq]
  exact ⟨nameAt_inj (h.f c hc) hf, fun e => by rw [e]⟩
theorem absT_at {cs : List Cl} (h : Log cs) {f : Int} (hf : in6 f) : absT (addAll (runsOf cs)) (nameAt f) = if mineOf cs f = [] then none else some ((qP (mineOf cs f), cnt (mineOf cs f)), calS (mineOf cs f)) := by
  rw [(table_ok cs).1, sum_runs h.r, sumS_at, mine_names h hf, sumAb_eq]
theorem entry_at {cs : List Cl} (h : Log cs) {f : Int} (hf : in6 f) {e : Entry} (he : get (addAll (runsOf cs)) (nameAt f) = some e) : EOk e ∧ e.1 = qP (mineOf cs f) ∧ tot e.2 = cnt (mineOf cs f) ∧ get e.2 = calS (mineOf cs f) := by
  have a := absT_at h hf
  unfold absT at a
  rw [he] at a
  refine ⟨(table_ok cs).2.get he, ?_⟩
  split at a
  · cases a
  · have := Option.some.inj a
    unfold absE at this
    simp only [Prod.mk.injEq] at this
    exact ⟨this.1.1, this.1.2, this.2⟩
theorem mem_order {cs : List Cl} (h : Log cs) {c : Cl} (hc : c ∈ cs) : c.f ∈ orderOf cs 3 := by
  have a := absT_at h (h.f c hc)
  have ne : mineOf cs c.f ≠ [] := fun e => by
    have : c ∈ mineOf cs c.f := List.mem_filter.mpr ⟨hc, by simp⟩
    rw [e] at this; exact nomatch this
  rw [if_neg ne] at a
  have hk : nameAt c.f ∈ keys (addAll (runsOf cs)) := by
    unfold keys
    rw [← get_isSome]
    unfold absT at a
    cases hg : get (addAll (runsOf cs)) (nameAt c.f) with
    | none => rw [hg] at a; cases a
    | some e => rfl
  rw [← (order_names h.f).1] at hk
  obtain ⟨i, hi, e⟩ := List.mem_map.mp hk
  have := nameAt_inj ((order_names h.f).2 i hi) (h.f c hc) e
  exact this ▸ hi
theorem get_map {α β : Type} (T : List (Str × α)) (g : α → β) (k : Str) : get (T.map fun c => (c.1, g c.2)) k = (get T k).map g := by
  induction T with
  | nil => rfl
  | cons c T ih => rw [List.map_cons, get_cons, get_cons, ih]; split <;> rfl
theorem keys_map {α β : Type} (T : List (Str × α)) (g : α → β) : keys (T.map fun c => (c.1, g c.2)) = keys T := by
  unfold keys; rw [List.map_map]; rfl
theorem order_nodup {cs : List Cl} (h : Log cs) : ((orderOf cs 3).map nameAt).Nodup := by rw [(order_names h.f).1]; exact (table_ok cs).2.nd
theorem sameD_map {γ : Type} {E : γ → γ → Prop} {cs : List Cl} (h : Log cs) (g : Entry → γ) (v : Int → γ) (hE : ∀ f ∈ orderOf cs 3, ∀ e, get (addAll (runsOf cs)) (nameAt f) = some e → E (g e) (v f)) :
    SameD E (toD ((addAll (runsOf cs)).map fun c => (c.1, g c.2))) (toD ((orderOf cs 3).map fun f => (nameAt f, v f))) := by
  have ok := table_ok cs
  have nd := order_nodup h
  have k2 : keys ((orderOf cs 3).map fun f => (nameAt f, v f)) = (orderOf cs 3).map nameAt := by unfold keys; rw [List.map_map]; rfl
  rw [toD_self (by rw [keys_map]; exact ok.2.nd), toD_self (by rw [k2]; exact nd)]
  refine ⟨?_, fun c hc => ?_⟩
  · have := congrArg List.length (order_names h.f).1
    unfold keys at this
    rw [List.length_map, List.length_map] at this
    rw [List.length_map, List.length_map, this]
  · obtain ⟨d, hd, rfl⟩ := List.mem_map.mp hc
    have hk : d.1 ∈ (orderOf cs 3).map nameAt := by rw [(order_names h.f).1]; exact List.mem_map.mpr ⟨d, hd, rfl⟩
    obtain ⟨f, hf, e⟩ := List.mem_map.mp hk
    refine ⟨v f, ?_, hE f hf d.2 (by rw [e]; exact get_mem ok.2.nd hd)⟩
    have := get_mem (cs := (orderOf cs 3).map fun f => (nameAt f, v f)) (by rw [k2]; exact nd) (List.mem_map.mpr ⟨f, hf, rfl⟩)
    show get _ d.1 = _
    rw [← e]; exact this
theorem row_n (cs : List Cl) (f : Int) : (dueAt cs f).row.n = nameAt f := by
  show (fnAt f).2.2.2 = nameAt f
  unfold fnAt nameAt
  cases fnTab[f.toNat]? <;> rfl
theorem pure2 {sh : Bool} {cs : List Cl} (h : Log cs) : SameD (SameD (PartE sh)) (toD ((addAll (runsOf cs)).map fun c => (c.1, c.2.2))) (toD (((orderOf cs 3).map (dueAt cs)).map fun d => (d.row.n, d.callers))) := by
  have e : (((orderOf cs 3).map (dueAt cs)).map fun d => (d.row.n, d.callers)) = (orderOf cs 3).map fun f => (nameAt f, callersDue (mineOf cs f) 6) := by
    rw [List.map_map]
    refine List.map_congr_left fun f _ => ?_
    show ((dueAt cs f).row.n, _) = _
    rw [row_n]; rfl
  rw [e]
  refine sameD_map h (fun e => e.2) _ fun f hf e he => ?_
  obtain ⟨a, b, c, d⟩ := entry_at h ((order_names h.f).2 f hf) he
  have g2 := get_callersDue6 (mine := mineOf cs f) fun c hc => h.g c (List.mem_filter.mp hc).1
  refine sameD_of a (callersDue_nodup _ 6) fun k => ?_
  rw [g2, d]
  exact ⟨fun q hq => ⟨q, hq, by cases sh <;> exact rfl⟩, id⟩
theorem headsOf_eq {cs : Callers} (nd : (keys cs).Nodup) : headsOf cs = cs.map fun c => (c.1, c.2.1) := toD_self (by rw [keys_map cs (·.1)]; exact nd)
theorem hdsOf_eq (cs : List Cl) : hdsOf (addAll (runsOf cs)) = (addAll (runsOf cs)).map fun c => (c.1, headsOf c.2.2) := toD_self (by rw [keys_map _ (fun e : Entry => headsOf e.2)]; exact (table_ok cs).2.nd)
theorem pure3 {cs : List Cl} (h : Log cs) : SameD (fun a b : Int => a = b) (toD ((hdsOf (addAll (runsOf cs))).map fun c => (c.1, (c.2.map (·.2)).sum))) (toD (((orderOf cs 3).map (dueAt cs)).map fun d => (d.row.n, d.n))) := by
  have e : (((orderOf cs 3).map (dueAt cs)).map fun d => (d.row.n, d.n)) = (orderOf cs 3).map fun f => (nameAt f, cnt (mineOf cs f)) := by
    rw [List.map_map]
    refine List.map_congr_left fun f _ => ?_
    show ((dueAt cs f).row.n, _) = _
    rw [row_n]; rfl
  rw [e, hdsOf_eq, List.map_map]
  refine sameD_map h (fun e => ((headsOf e.2).map (·.2)).sum) _ fun f hf e he => ?_
  obtain ⟨a, b, c, d⟩ := entry_at h ((order_names h.f).2 f hf) he
  rw [← c, headsOf_eq a, List.map_map]; rfl
theorem rowsAt_name {q : Quad} {en : Callers} {f : Int} (hf : in6 f) : rowsAt (nameAt f, (q, en)) 6 = [rowOf q (fnAt f)] := by
  have all : ∀ a ∈ List.range 6, ((fnTab.take 6).filter fun g => g.2.2.2 == nameAt (a : Int)) = [fnAt (a : Int)] := by decide +kernel
  have ei : ((f.toNat : Nat) : Int) = f := by have := hf.1; lia
  have := all f.toNat (List.mem_range.mpr (by have := hf.2; have := hf.1; lia))
  rw [ei] at this
  unfold rowsAt
  rw [this]; rfl
theorem rows_due {cs : List Cl} (h : Log cs) : rowsOf (addAll (runsOf cs)) = dueRows cs := by
  have ok := table_ok cs
  have e1 : ∀ c ∈ addAll (runsOf cs), rowsAt c 6 = ((keys [c]).flatMap fun k => [rowOf (((absT (addAll (runsOf cs)) k).map (·.1.1)).getD (0, 0, 0, 0)) (fnAt (((orderOf cs 3).find? fun f => nameAt f == k).getD 0))]) := by
    intro c hc
    have hk : c.1 ∈ (orderOf cs 3).map nameAt := by rw [(order_names h.f).1]; exact List.mem_map.mpr ⟨c, hc, rfl⟩
    obtain ⟨f, hf, e⟩ := List.mem_map.mp hk
    have f6 := (order_names h.f).2 f hf
    have fd : ((orderOf cs 3).find? fun f => nameAt f == c.1) = some f := by
      have hs : ((orderOf cs 3).find? fun f => nameAt f == c.1).isSome = true := by
        rw [List.find?_isSome]; exact ⟨f, hf, by simp [e]⟩
      obtain ⟨f', hf'⟩ := Option.isSome_iff_exists.mp hs
      have h1 := List.mem_of_find?_eq_some hf'
      have h2 := List.find?_some hf'
      have : f' = f := nameAt_inj ((order_names h.f).2 f' h1) f6 (by rw [e]; simpa using h2)
      rw [hf', this]
    have ga : absT (addAll (runsOf cs)) c.1 = some (absE c.2) := by unfold absT; rw [get_mem ok.2.nd hc]; rfl
    show _ = [rowOf (((absT (addAll (runsOf cs)) c.1).map (·.1.1)).getD (0, 0, 0, 0)) (fnAt (((orderOf cs 3).find? fun f => nameAt f == c.1).getD 0))]
    rw [fd, ga]
    obtain ⟨k, q, en⟩ := c
    dsimp only at e
    subst e
    rw [rowsAt_name f6]; rfl
  have e2 : ∀ (F : Str → Row) (l : Table), (∀ c ∈ l, rowsAt c 6 = (keys [c]).flatMap fun k => [F k]) → rowsOf l = (keys l).map F := by
    intro F l
    induction l with
    | nil => intro _; rfl
    | cons c l ih =>
      intro hl
      unfold rowsOf at *
      rw [List.flatMap_cons, hl c (.head _), ih fun d hd => hl d (.tail _ hd)]
      rfl
  rw [e2 _ _ e1, ← (order_names h.f).1, List.map_map]
  unfold dueRows
  rw [List.map_map]
  refine List.map_congr_left fun f hf => ?_
  have f6 := (order_names h.f).2 f hf
  have fd : ((orderOf cs 3).find? fun g => nameAt g == nameAt f) = some f := by
    have hs : ((orderOf cs 3).find? fun g => nameAt g == nameAt f).isSome = true := by
      rw [List.find?_isSome]; exact ⟨f, hf, by simp⟩
    obtain ⟨f', hf'⟩ := Option.isSome_iff_exists.mp hs
    have h1 := List.mem_of_find?_eq_some hf'
    have h2 := List.find?_some hf'
    have : f' = f := nameAt_inj ((order_names h.f).2 f' h1) f6 (by simpa using h2)
    rw [hf', this]
  show rowOf (((absT (addAll (runsOf cs)) (nameAt f)).map (·.1.1)).getD (0, 0, 0, 0)) (fnAt (((orderOf cs 3).find? fun g => nameAt g == nameAt f).getD 0)) = (dueAt cs f).row
  rw [fd]
  have hk : nameAt f ∈ keys (addAll (runsOf cs)) := by rw [← (order_names h.f).1]; exact List.mem_map.mpr ⟨f, hf, rfl⟩
  unfold keys at hk
  obtain ⟨e, he⟩ := Option.isSome_iff_exists.mp (get_isSome.mpr hk)
  obtain ⟨a, b, c, d⟩ := entry_at h f6 he
  have ga : absT (addAll (runsOf cs)) (nameAt f) = some (absE e) := by unfold absT; rw [he]; rfl
  rw [ga]
  show rowOf e.1 (fnAt f) = _
  rw [b]; rfl
open PySem PySem.W PySem.W.X PyProof.Rows PySem.Calls
set_option Elab.async false
set_option maxRecDepth 100000
set_option maxHeartbeats 4000000
theorem uniq {α : Type} {R : α → α → Prop} (as : ∀ a b, R a b → R b a → a = b) : ∀ {l l' : List α}, l.Perm l' → l.Pairwise R → l'.Pairwise R → l = l'
  | [], l', p, _, _ => (List.nil_perm.mp p).symm
  | a :: t, [], p, _, _ => absurd p.length_eq (by simp)
  | a :: t, b :: t', p, h, h' => by
    have hb : b ∈ a :: t := p.mem_iff.mpr (.head _)
    have ha : a ∈ b :: t' := p.mem_iff.mp (.head _)
    rw [List.pairwise_cons] at h h'
    have e : a = b := by
      rcases List.mem_cons.mp hb with e | hb
      · exact e.symm
      · rcases List.mem_cons.mp ha with e | ha
        · exact e
        · exact as a b (h.1 b hb) (h'.1 a ha)
    subst e
    rw [uniq as (List.perm_cons _ |>.mp p) h.2 h'.2]
theorem lex_step {k : Int × Int} (hd : k.2 = 1 ∨ k.2 = -1) (ks : List (Int × Int)) : ∃ c : Row → Row → Bool, Swo c ∧ (∀ a b, lexLt (k :: ks) a b = if c a b = true then true else if c b a = true then false else lexLt ks a b) ∧ ∀ rs, ordR rs (k :: ks) = Pr (fun i j => c (rAt rs i) (rAt rs j)) (ordR rs ks) := by
  have w := swo_col k.1
  rcases hd with e | e
  · refine ⟨colLt k.1, w, fun a b => by rw [lexLt_cons, e]; rfl, fun rs => ?_⟩
    show (if k.2 < 0 then _ else _) = _
    rw [if_neg (by lia)]
  · refine ⟨fun a b => colLt k.1 b a, w.flip, fun a b => ?_, fun rs => ?_⟩
    · rw [lexLt_cons, e]
      have := w.asym a b
      cases h1 : colLt k.1 a b <;> cases h2 : colLt k.1 b a <;> simp_all
    · show (if k.2 < 0 then _ else _) = _
      rw [if_pos (by lia)]
theorem ordR_lex {rs : List Row} {ks : List (Int × Int)} (hd : ∀ k ∈ ks, k.2 = 1 ∨ k.2 = -1) (i j : Nat) : ordR rs ks i j ↔ Pr (fun i j => lexLt ks (rAt rs i) (rAt rs j)) (· < ·) i j := by
  induction ks with
  | nil =>
    show i < j ↔ _
    unfold Pr lexLt
    simp [cmpK]
  | cons k ks ih =>
    have ih := ih fun x hx => hd x (.tail _ hx)
    obtain ⟨c, wc, hc, ho⟩ := lex_step (hd k (.head _)) ks
    rw [ho]
    unfold Pr at ih ⊢
    dsimp only at ih ⊢
    rw [hc, hc, ih]
    have a1 := wc.asym (rAt rs i) (rAt rs j)
    have a2 := wc.asym (rAt rs j) (rAt rs i)
    cases h1 : c (rAt rs i) (rAt rs j) <;> cases h2 : c (rAt rs j) (rAt rs i) <;> simp_all
theorem pure1 {rs : List Row} {ks : List (Int × Int)} (hd : ∀ k ∈ ks, k.2 = 1 ∨ k.2 = -1) {idx idx' : List Nat} (p : idx.Perm (List.range rs.length)) (h : idx.Pairwise (Pr (fun i j => lexLt ks (rAt rs i) (rAt rs j)) (· < ·))) (p' : idx'.Perm (List.range rs.length)) (h' : idx'.Pairwise (ordR rs ks)) : idx'.map (rAt rs) = idx.map (rAt rs) := by
  have w := swo_lex hd
  rw [uniq (R := Pr (fun i j => lexLt ks (rAt rs i) (rAt rs j)) (· < ·)) (fun a b hab hba => ?_) (p'.trans p.symm) (h'.imp fun hh => (ordR_lex hd _ _).mp hh) h]
  rcases hab with hab | ⟨h1, h2⟩ <;> rcases hba with hba | ⟨h3, h4⟩
  · have := w.asym _ _ hab; dsimp only at hba; rw [this] at hba; cases hba
  · dsimp only at hab h3; rw [hab] at h3; cases h3
  · dsimp only at hba h1; rw [hba] at h1; cases h1
  · lia
theorem callOf_ok (n : Int) : (callOf n).ok ∧ (callOf n).sm ∧ in6 (callOf n).f ∧ 0 ≤ (callOf n).g ∧ ((callOf n).r = 0 ∨ (callOf n).r = 1 ∨ (callOf n).r = 2) := by
  have y0 := Int.fmod_nonneg_of_pos n (b := 3024) (by decide)
  have y1 := Int.fmod_lt_of_pos n (b := 3024) (by decide)
  unfold callOf Cl.ok Cl.sm in6
  dsimp only
  generalize n.fmod 3024 = y at y0 y1
  have f0 := Int.fmod_nonneg_of_pos y (b := 6) (by decide)
  have f1 := Int.fmod_lt_of_pos y (b := 6) (by decide)
  have g0 := Int.fmod_nonneg_of_pos (y.fdiv 6) (b := 7) (by decide)
  have r0 := Int.fmod_nonneg_of_pos (y.fdiv 42) (b := 3) (by decide)
  have r1 := Int.fmod_lt_of_pos (y.fdiv 42) (b := 3) (by decide)
  have p0 := Int.fmod_nonneg_of_pos (y.fdiv 126) (b := 2) (by decide)
  have p1 := Int.fmod_lt_of_pos (y.fdiv 126) (b := 2) (by decide)
  have o0 := Int.fmod_nonneg_of_pos (y.fdiv 252) (b := 4) (by decide)
  have o1 := Int.fmod_lt_of_pos (y.fdiv 252) (b := 4) (by decide)
  have x0 : 0 ≤ y.fdiv 1008 ∧ y.fdiv 1008 ≤ 2 := by
    rw [Int.fdiv_eq_ediv_of_nonneg y (by decide)]
    lia
  refine ⟨⟨f0, f1, g0⟩, ⟨⟨p0, by lia⟩, ⟨o0, by lia⟩, x0⟩, ⟨f0, f1⟩, g0, by lia⟩
theorem log_of (xs : List Int) : Log (callsOf xs) ∧ (∀ c ∈ callsOf xs, c.ok ∧ c.sm) ∧ (callsOf xs).length ≤ 10 := by
  have h : ∀ c ∈ callsOf xs, ∃ n, c = callOf n := fun c hc => by
    obtain ⟨n, _, rfl⟩ := List.mem_map.mp hc
    exact ⟨n, rfl⟩
  refine ⟨⟨fun c hc => ?_, fun c hc => ?_, fun c hc => ?_⟩, fun c hc => ?_, ?_⟩
  · obtain ⟨n, rfl⟩ := h c hc; exact (callOf_ok n).2.2.1
  · obtain ⟨n, rfl⟩ := h c hc; exact (callOf_ok n).2.2.2.1
  · obtain ⟨n, rfl⟩ := h c hc; exact (callOf_ok n).2.2.2.2
  · obtain ⟨n, rfl⟩ := h c hc; exact ⟨(callOf_ok n).1, (callOf_ok n).2.1⟩
  · unfold callsOf; rw [List.length_map]; exact numsOf_len xs
theorem two_of {l : List Int} {a b : Int} (ha : a ∈ l) (hb : b ∈ l) (ne : a ≠ b) : 2 ≤ l.length := by
  match l, ha, hb with
  | [x], ha, hb => simp at ha hb; lia
  | _ :: _ :: _, _, _ => simp
theorem order_two (xs : List Int) : 2 ≤ (orderOf (callsOf xs) 3).length := by
  have h := (log_of xs).1
  have m : ∀ n ∈ ([1660, 358, 948] : List Int), callOf n ∈ callsOf xs := fun n hn => List.mem_map.mpr ⟨n, List.mem_append_right _ hn, rfl⟩
  have a := mem_order h (m 1660 (by simp))
  have b := mem_order h (m 948 (by simp))
  exact two_of a b (by decide)
theorem words_dir : ∀ w ∈ words, ∀ k ∈ w, k.2 = 1 ∨ k.2 = -1 := by decide
theorem keys_ok (xs : List Int) : (keysOf xs).length ≤ 10 ∧ (∀ k ∈ keysOf xs, 0 ≤ k.1 ∧ k.1 < 8) ∧ ∀ k ∈ keysOf xs, k.2 = 1 ∨ k.2 = -1 := by
  unfold keysOf
  have l1 := wordAt_len ((pickOf xs).fdiv 2)
  have l2 := wordAt_len ((pickOf xs).fdiv 18)
  have w : ∀ n k, k ∈ wordAt n → wordAt n ∈ words := fun n k hk => by
    rcases wordAt_mem n with h | h
    · rw [h] at hk; exact nomatch hk
    · exact h
  refine ⟨by rw [List.length_append]; lia, fun k hk => ?_, fun k hk => ?_⟩
  · rcases List.mem_append.mp hk with h | h
    · exact (words_len _ (w _ k h)).2 k h
    · exact (words_len _ (w _ k h)).2 k h
  · rcases List.mem_append.mp hk with h | h
    · exact words_dir _ (w _ k h) k h
    · exact words_dir _ (w _ k h) k h
open PySem PySem.W PySem.W.X PyProof.Rows PySem.Calls
set_option Elab.async false
set_option maxRecDepth 100000
set_option maxHeartbeats 4000000
section
variable {B : Bs} {sh : Bool} {P : PM} {v : Value} {k : Array Value}
theorem RD.kk {kvs : List (Str × Value)} (h : RD B P v kvs) : RD (B.k k) P v kvs := let ⟨a, o, e, s, p, i⟩ := h; ⟨a, o, e, s, p, i⟩
theorem RC.kk {cs : Callers} (h : RC B sh P v cs) : RC (B.k k) sh P v cs := let ⟨kvs, a, b, c⟩ := h; ⟨kvs, a.kk, b, c⟩
theorem RE.kk {en : Entry} (h : RE B sh P v en) : RE (B.k k) sh P v en := let ⟨a, b, c, d, e, r, x⟩ := h; ⟨a, b, c, d, e, r, x.kk⟩
theorem RTb.kk {T : Table} (h : RTb B sh P v T) : RTb (B.k k) sh P v T := let ⟨kvs, a, b, c⟩ := h; ⟨kvs, a.kk, b.mono fun _ _ x => x.kk, c⟩
end
/-- cmp_to_key(TupleComp(keys).compare) makes keys -/
noncomputable def KeyMk (B : Bs) : Prop := ∀ (P0 P1 : PM) (s s1 : Shared) (L : Addr) (vs : List (Option Value)) (own : List Own) (vk : Value) (ks : List (Int × Int)) (Q1 : Value → Shared → Prop), RKeys P1 vk ks → ks.length ≤ 10 → (∀ k ∈ ks, 0 ≤ k.1 ∧ k.1 < 8) →
  FE (envC B 164 L) L ["script", "numbers", "pick", "keys", "runs", "back", "told", "due"] → Lk ["script", "numbers", "pick", "keys", "runs", "back", "told", "due"] vs "keys" vk →
  St B P0 s P1 L (asg ["script", "numbers", "pick", "keys", "runs", "back", "told", "due"] vs) own s1 →
  (∀ k' P' K KI s2, P1.le P' → KeyFn (B.k k') P' K ks KI → St (B.k k') P0 s P' L (asg ["script", "numbers", "pick", "keys", "runs", "back", "told", "due"] vs) own s2 → Q1 (.ref K) s2) →
  wpAny (mdl B) (AA 461 1963) (eval keyE (envC B 164 L)) Q1 no s1
theorem spec164 {B : Bs} {P : PM} {s : Shared} (ok : Ok B) (wd : Wd B P s) (km : KeyMk B) {v : Value} {xs : List Int} (hx : xs.length ≤ 63) (r : RLs RI P v xs) :
    wpAny (mdl B) (AA 460 1960) (call (.ref 164) [v]) (fun u s' => u = .bool true ∧ ∃ k' P', Wd (B.k k') P' s' ∧ ∀ a o, s.heap.get? a = some o → a ∉ tabs → s'.heap.get? a = some o) (fun _ _ => False) s := by
  refine enterC ok wd 164 22 163 ["script"] ["numbers", "pick", "keys", "runs", "back", "told", "due"] (fun n => [("heads", n + 1 + 1 + 1 + 1), ("table", n + 1 + 1 + 1), ("calls", n + 1 + 1), ("short", n + 1)]) (fun p => by kernel_rfl) (fun p => by kernel_rfl) (fun p => by kernel_rfl) (fun p => by kernel_rfl) (fun p => by kernel_rfl) (fun p => ⟨⟨by kernel_rfl, by kernel_rfl⟩, by kernel_rfl, by kernel_rfl, by kernel_rfl, by kernel_rfl, by kernel_rfl⟩) (fun p n => by kernel_rfl) (fun p n => by kernel_rfl) (fun n => by kernel_rfl) (by kernel_rfl) (by kernel_rfl) rfl (by decide) ?_
  intro L s1 h fe ce
  dsimp only [List.cons_append, List.nil_append, List.map, celsOf] at h fe
  obtain ⟨lg, hc, hl⟩ := log_of xs
  obtain ⟨k1, k2, k3⟩ := keys_ok xs
  have o2 := order_two xs
  have rd := rows_due lg
  have dl : (dueRows (callsOf xs)).length = (orderOf (callsOf xs) 3).length := by unfold dueRows; rw [List.length_map, List.length_map]
  refine lawA ok hx r fe ce h fun P1 s2 vn vp vk vc l1 rk rc h => ?_
  refine lawB ok hl (fun c hm => (hc c hm).1) rc fe ce h fun P2 s3 vr vt vb l2 rt rb h => ?_
  refine lawC ok rt (rk.mono l2) k3 (by rw [rd, dl]; exact o2) (fun P3 s4 Q1 l3 rk3 h3 hq => km _ _ _ _ _ _ _ _ _ _ rk3 k1 k2 fe (by walk_at "lk") h3 hq) fe ce h fun k' P3 s4 vd idx l3 ip iw rr h => ?_
  rw [rd] at ip iw rr
  have ok' := ok.k k'
  have fe' : FE (envC (B.k k') 164 L) L ["script", "numbers", "pick", "keys", "runs", "back", "told", "due"] := fe
  have ce' : CE (envC (B.k k') 164 L) [("heads", L + 1 + 1 + 1 + 1), ("table", L + 1 + 1 + 1), ("calls", L + 1 + 1), ("short", L + 1)] := ce
  have l13 := l2.trans l3
  refine lawD (B := B.k k') (sh := shortOf xs) (cs := callsOf xs) (ks := keysOf xs) (rows := idx.map (rAt (dueRows (callsOf xs)))) ok' hl hc (RCls.mono l13 rc) (rk.mono l13) k1 k2 o2 rr (fun idx' ip' iw' => pure1 k3 ip iw ip' iw') fe' ce' h fun P4 s5 vd2 l4 rd4 h => ?_
  have rt4 : RTb (B.k k') (shortOf xs) P4 vt (addAll (runsOf (callsOf xs))) := RTb.mono (l3.trans l4) rt.kk
  have rb4 : RTb (B.k k') (shortOf xs) P4 vb (addAll (runsOf (callsOf xs)).reverse) := RTb.mono (l3.trans l4) rb.kk
  have ol : ((orderOf (callsOf xs) 3).map (dueAt (callsOf xs))).length ≤ 30 := by have := orderOf_len (callsOf xs) 3; rw [List.length_map]; lia
  refine lawE (B := B.k k') ok' rt4 rd4 ol (pure2 lg) fe' ce' h fun P5 s6 l5 h => ?_
  refine lawF (B := B.k k') ok' (rt4.mono l5) fe' ce' h fun P6 s7 vh kh l6 rh dh h => ?_
  refine lawG (B := B.k k') ok' (rt4.mono (l5.trans l6)) (rb4.mono (l5.trans l6)) rh dh ?_ (RDues.mono (l5.trans l6) rd4) ol (pure3 lg) (pure4 _) fe' ce' h fun P7 s8 wd8 kp8 => ⟨rfl, k', P7, wd8, kp8⟩
  rw [hdsOf_eq, List.length_map]
  exact rt.le6
open PySem PySem.W PySem.W.X PyProof.Rows PySem.Calls
set_option Elab.async false
set_option maxRecDepth 100000
set_option maxHeartbeats 4000000
noncomputable abbrev ent (h : Int) (x : String) (t : Tok) (v : Value) : DictEntry := ⟨h, .str (Str.ofString x) t, v⟩
section
variable {M : Model} {A : Around} {E : Value → Shared → Prop} {s : Shared} {α β : Type} {a : α} {l : List α} {b : β} {f : α → β → Sem (ForInStep β)} {Q : β → Shared → Prop}
@[irreducible] noncomputable def forQ (l : List α) (b : β) (f : α → β → Sem (ForInStep β)) : Sem β := forIn l b f
theorem wpForQ (h : wpAny M A (forQ l b f) Q E s) : wpAny M A (forIn l b f) Q E s := by unfold forQ at h; exact h
theorem wpForNil (h : Q b s) : wpAny M A (forQ [] b f) Q E s := by unfold forQ; exact wpAny_pure h
theorem wpForCons (h : wpAny M A (f a b) (fun r s' => match r with | .done b => Q b s' | .yield b => wpAny M A (forQ l b f) Q E s') E s) : wpAny M A (forQ (a :: l) b f) Q E s := by
  unfold forQ
  rw [List.forIn_cons]
  refine wpAny_bind (wpAny_mono h (fun r s' hr => ?_) fun _ _ h => h)
  cases r with
  | done b => exact wpAny_pure hr
  | yield b => unfold forQ at hr; exact hr
end
@[irreducible] noncomputable def runQ (c : Code) : Sem Value := runValue c
@[irreducible] noncomputable def callQ (f : Value) (pos : List Value) (kw : List (Str × Value)) : Sem Value := call f pos kw
theorem wpRunQ {c : Code} {Q : Value → Shared → Prop} (h : wpAny M A (runQ c) Q E s) : wpAny M A (runValue c) Q E s := by unfold runQ at h; exact h
theorem wpCallQ {v : Value} {p : List Value} {k : List (Str × Value)} {Q : Value → Shared → Prop} (h : wpAny M A (callQ v p k) Q E s) : wpAny M A (call v p k) Q E s := by unfold callQ at h; exact h
theorem wpRunV {c : Code} {Q : Value → Shared → Prop} (h : wpAny M A (runValue c) Q E s) : wpAny M A (runQ c) Q E s := by unfold runQ; exact h
theorem wpCallV {v : Value} {p : List Value} {k : List (Str × Value)} {Q : Value → Shared → Prop} (h : wpAny M A (call v p k) Q E s) : wpAny M A (callQ v p k) Q E s := by unfold callQ; exact h
theorem wpE {α : Type} {t : Sem α} {P Q : α → Shared → Prop} (h : wpAny M A t P (fun _ _ => False) s) (k : ∀ v s', P v s' → Q v s') : wpAny M A t Q E s := wpAny_mono h k fun _ _ x => x.elim
theorem memGrow {h h' : Heap} {news : List (Addr × Obj)} (D : Mem h h' [] news) : ∀ b o, h.get? b = some o → h'.get? b = some o := fun b o e => D.keep b o e (by rw [show away [] b = true from rfl, Bool.or_true])
@[irreducible] noncomputable def stopQ {α : Type} (t : Sem α) : Sem α := t
theorem wpStop {α : Type} {t : Sem α} {Q : α → Shared → Prop} (h : wpAny M A (stopQ t) Q E s) : wpAny M A t Q E s := by unfold stopQ at h; exact h
theorem wpGo {α : Type} {t : Sem α} {Q : α → Shared → Prop} (h : wpAny M A t Q E s) : wpAny M A (stopQ t) Q E s := by unfold stopQ; exact h
theorem wpStopRead {n : Str} {b : List Value} {es : Array DictEntry} {Q : Builtin.Slots.Plan → Shared → Prop} (h : wpAny M A (stopQ (Builtin.Slots.read n b es)) Q E s) : wpAny M A (Builtin.Slots.read n b es) Q E s := wpStop h
theorem wpStopInst {v : Value} {n : Addr} {b : List Value} {p : Builtin.Slots.Plan} {Q : Unit → Shared → Prop} (h : wpAny M A (stopQ (Builtin.Slots.install v n b p)) Q E s) : wpAny M A (Builtin.Slots.install v n b p) Q E s := wpStop h
theorem wpStopAlloc {o : Obj} {Q : Addr → Shared → Prop} (h : wpAny M A (stopQ (alloc o)) Q E s) : wpAny M A (alloc o) Q E s := wpStop h
theorem wpStopUpd {a : Addr} {f : Obj → Obj} {Q : Unit → Shared → Prop} (h : wpAny M A (stopQ (update a f)) Q E s) : wpAny M A (update a f) Q E s := wpStop h
theorem wpStopUpdP {a : Addr} {p : Option Value} {f : Obj → Obj} {Q : Unit → Shared → Prop} (h : wpAny M A (stopQ (updatePart a p f)) Q E s) : wpAny M A (updatePart a p f) Q E s := wpStop h
theorem wpStopNsGet {a : Addr} {n : Str} {Q : (Option Value) → Shared → Prop} (h : wpAny M A (stopQ (nsGet a n)) Q E s) : wpAny M A (nsGet a n) Q E s := wpStop h
theorem wpStopNsSet {a : Addr} {n : Str} {v : Value} {Q : Unit → Shared → Prop} (h : wpAny M A (stopQ (nsSet a n v)) Q E s) : wpAny M A (nsSet a n v) Q E s := wpStop h
theorem wpStopNsDel {a : Addr} {n : Str} {Q : Bool → Shared → Prop} (h : wpAny M A (stopQ (nsDel a n)) Q E s) : wpAny M A (nsDel a n) Q E s := wpStop h
theorem wpStopCls {a : Addr} {f : ClassData → ClassData} {Q : Unit → Shared → Prop} (h : wpAny M A (stopQ (updateCls a f)) Q E s) : wpAny M A (updateCls a f) Q E s := wpStop h
theorem wpStopSlot {a : Addr} {i : Nat} {v : Option Value} {Q : Unit → Shared → Prop} (h : wpAny M A (stopQ (setSlotAt a i v)) Q E s) : wpAny M A (setSlotAt a i v) Q E s := wpStop h
theorem wpStopSlotAt {a : Addr} {i : Nat} {Q : (Option Value) → Shared → Prop} (h : wpAny M A (stopQ (slotAt a i)) Q E s) : wpAny M A (slotAt a i) Q E s := wpStop h
theorem wpStopGetA {v : Value} {n : Str} {Q : (Option Value) → Shared → Prop} (h : wpAny M A (stopQ (getAttr? v n)) Q E s) : wpAny M A (getAttr? v n) Q E s := wpStop h
theorem wpStopGetAt {v : Value} {n : Str} {Q : Value → Shared → Prop} (h : wpAny M A (stopQ (getAttr v n)) Q E s) : wpAny M A (getAttr v n) Q E s := wpStop h
section
variable {M : Model} {A : Around} {E : Value → Shared → Prop} {h0 h : Heap} {g : Array GenState} {d : Drawn} {tk : Nat} {os : OsState} {chg news : List (Addr × Obj)}
theorem alM {o : Obj} {Q : Addr → Shared → Prop} (D : Mem h0 h chg news) (hf : o.isFreed = false) (q : ∀ a h', Mem h0 h' chg ((a, o) :: news) → Q a ⟨h', g, d, tk, os⟩) : wpAny M A (stopQ (alloc o)) Q E ⟨h, g, d, tk, os⟩ :=
  wpGo (wpAny_alloc (q _ _ (D.alloc hf)))
theorem upM {a : Addr} {f : Obj → Obj} {o o' : Obj} {Q : Unit → Shared → Prop} (D : Mem h0 h chg news) (i : Nat) (hi : news[i]? = some (a, o)) (ho : f o = o') (hf : o'.isFreed = false) (q : ∀ h', Mem h0 h' chg (news.set i (a, o')) → Q () ⟨h', g, d, tk, os⟩) : wpAny M A (update a f) Q E ⟨h, g, d, tk, os⟩ :=
  wpAny_update (D.at i a o hi) (q _ (ho ▸ D.update hi (ho ▸ hf)))
theorem upPM {a : Addr} {p : Option Value} {f : Obj → Obj} {o o' : Obj} {Q : Unit → Shared → Prop} (D : Mem h0 h chg news) (i : Nat) (hi : news[i]? = some (a, o)) (ho : f o = o') (hf : o'.isFreed = false) (q : ∀ h', Mem h0 h' chg (news.set i (a, o')) → Q () ⟨h', g, d, tk, os⟩) : wpAny M A (updatePart a p f) Q E ⟨h, g, d, tk, os⟩ :=
  wpAny_updatePart (D.at i a o hi) (q _ (ho ▸ D.update hi (ho ▸ hf)))
theorem ngM {a : Addr} {n : Str} {o : Obj} {r : Option Value} {Q : Option Value → Shared → Prop} (ho : h.get? a = some o) (e : nsLook n o = pure r) (q : Q r ⟨h, g, d, tk, os⟩) : wpAny M A (stopQ (nsGet a n)) Q E ⟨h, g, d, tk, os⟩ := by
  refine wpGo ?_
  unfold nsGet
  refine wpAny_bind (wpAny_loadPart ho ?_)
  rw [e]
  exact wpAny_pure q
noncomputable def hashS (w : World) (s : Str) : Int := if s.cps.isEmpty then 0 else reduceHash (w.params.strHash s.cps)
theorem nsM {w : World} {a : Addr} {n : Str} {v : Value} {o' : Obj} {c : Value} {dd : Option Addr} {es : Array DictEntry} {ep : Nat} {sl : Array (Option Value)} {Q : Unit → Shared → Prop} (D : Mem h0 h chg news) (i : Nat) (hi : news[i]? = some (a, ⟨c, dd, .dict es ep, sl⟩))
    (hr : aRefKeyMayBeTheName n es = false) (ho : Obj.putName n (hashS w n) (.str n tk) v ⟨c, dd, .dict es ep, sl⟩ = o') (hf : o'.isFreed = false) (q : ∀ h', Mem h0 h' chg (news.set i (a, o')) → Q () ⟨h', g, d, tk + 1, os⟩) : wpAny (model prg w) A (stopQ (nsSet a n v)) Q E ⟨h, g, d, tk, os⟩ := by
  refine wpGo ?_
  unfold nsSet strHash mkText
  have eL := D.at i _ _ hi
  refine wpAny_bind (wpAny_bind (wpAny_askSetting (wpAny_pure ?_)))
  wp_walk
  have z := D.update hi (f := Obj.putName n (hashS w n) (.str n tk) v) (by rw [ho]; exact hf)
  rw [ho] at z
  exact q _ z
theorem ndM {a : Addr} {n : Str} {o o' : Obj} {Q : Bool → Shared → Prop} (D : Mem h0 h chg news) (i : Nat) (hi : news[i]? = some (a, o)) (hr : nsHas n o = pure true) (ho : Obj.dropName n o = o') (hf : o'.isFreed = false) (q : ∀ h', Mem h0 h' chg (news.set i (a, o')) → Q true ⟨h', g, d, tk, os⟩) : wpAny M A (stopQ (nsDel a n)) Q E ⟨h, g, d, tk, os⟩ := by
  refine wpGo ?_
  unfold nsDel
  refine wpAny_bind (wpAny_loadPart (D.at i _ _ hi) ?_)
  rw [hr]
  refine wpAny_bind (wpAny_pure ?_)
  rw [if_pos rfl]
  exact wpAny_bind (upPM D i hi ho hf fun h' D' => wpAny_pure (q h' D'))
theorem ssM {a : Addr} {k : Nat} {v : Option Value} {o o' : Obj} {Q : Unit → Shared → Prop} (D : Mem h0 h chg news) (i : Nat) (hi : news[i]? = some (a, o)) (hk : decide (k ≥ sizeLine) = false) (ho : { o with slots := (o.slots ++ Array.replicate (k + 1 - o.slots.size) none).setIfInBounds k v } = o') (hf : o'.isFreed = false) (q : ∀ h', Mem h0 h' chg (news.set i (a, o')) → Q () ⟨h', g, d, tk, os⟩) : wpAny M A (stopQ (setSlotAt a k v)) Q E ⟨h, g, d, tk, os⟩ := by
  refine wpGo ?_
  unfold setSlotAt
  refine wpAny_ite_false hk ?_
  exact upPM D i hi ho hf q
theorem ucM {a : Addr} {f : ClassData → ClassData} {c : Value} {dd : Option Addr} {cd : ClassData} {sl : Array (Option Value)} {o' : Obj} {Q : Unit → Shared → Prop} (D : Mem h0 h chg news) (i : Nat) (hi : news[i]? = some (a, ⟨c, dd, .cls cd, sl⟩)) (ho : Obj.mapCls f ⟨c, dd, .cls cd, sl⟩ = o') (hp : o'.data.pastItsLine = none) (hf : o'.isFreed = false) (q : ∀ h', Mem h0 h' chg (news.set i (a, o')) → Q () ⟨h', g, d, tk, os⟩) : wpAny M A (stopQ (updateCls a f)) Q E ⟨h, g, d, tk, os⟩ := by
  refine wpGo ?_
  unfold updateCls
  refine wpAny_bind (wpAny_load (D.at i _ _ hi) ?_)
  refine wpAny_bind (upM D i hi ho hf fun h' D' => ?_)
  unfold lookBehind
  have e' : h'.get? a = some o' := D'.at i _ _ (by
    have := (List.getElem?_eq_some_iff.mp hi).1
    rw [List.getElem?_set_self this])
  refine wpAny_bind (wpAny_loadPart e' ?_)
  rw [hp]
  exact wpAny_pure (q h' D')
theorem saM {a : Addr} {k : Nat} {o : Obj} {r : Option Value} {Q : Option Value → Shared → Prop} (ho : h.get? a = some o) (e : (o.slots[k]?).join = r) (q : Q r ⟨h, g, d, tk, os⟩) : wpAny M A (stopQ (slotAt a k)) Q E ⟨h, g, d, tk, os⟩ := by
  refine wpGo ?_
  unfold slotAt
  refine wpAny_bind (wpAny_loadPart ho ?_)
  rw [e]
  exact wpAny_pure q
end
section
variable {M : Model} {A : Around} {E : Value → Shared → Prop} {s : Shared}
theorem wpStopFn {α : Type} {c : Code} {o : Option Value} {Q : Flow → Shared → Prop} (h : wpAny M A (stopQ (run c o)) Q E s) : wpAny M A (run c o) Q E s := wpStop h
theorem wpStopCC {e : Env} {p : Pos} {f : Nat} {n q : Str} {sc : Scope} {Q : Value → Shared → Prop} (h : wpAny M A (stopQ (classCode e p f n q sc)) Q E s) : wpAny M A (classCode e p f n q sc) Q E s := wpStop h
theorem wpStopBF {a b : Addr} {Q : Addr → Shared → Prop} (h : wpAny M A (stopQ (builtinsFor a b)) Q E s) : wpAny M A (builtinsFor a b) Q E s := wpStop h
theorem wpStopEF {n : Nat} {Q : Unit → Shared → Prop} (h : wpAny M A (stopQ (enterFrame n)) Q E s) : wpAny M A (enterFrame n) Q E s := wpStop h
theorem wpStopSN {e : Env} {n : Str} {v : Value} {Q : Unit → Shared → Prop} (h : wpAny M A (stopQ (storeName e n v)) Q E s) : wpAny M A (storeName e n v) Q E s := wpStop h
theorem wpStopLN {e : Env} {n : Str} {Q : Value → Shared → Prop} (h : wpAny M A (stopQ (loadName e n)) Q E s) : wpAny M A (loadName e n) Q E s := wpStop h
theorem wpOnR {α : Type} {m : Sem α} {k : Value → Sem Unit} {Q : α → Shared → Prop} (h : wpAny M A (stopQ m) Q (fun e s' => wpAny M A (k e) (fun _ s'' => E e s'') E s') s) : wpAny M A (m.onRaise k) Q E s := by unfold stopQ at h; exact wpAny_onRaise h
end
theorem evalArgsF {M : Model} {A : Around} {E : Value → Shared → Prop} {s : Shared} {f : Value} {args : List (Bool × Sem Value)} {Q : Args → Shared → Prop}
    (h : wpAny M A (spliced args) (fun vs s' => Q ⟨vs, []⟩ s') E s) : wpAny M A (evalArgs f false args []) Q E s := by
  unfold evalArgs
  show wpAny M A (spliced args >>= _) Q E s
  refine wpAny_bind (wpAny_mono h (fun vs s' h' => ?_) fun _ _ x => x)
  refine wpAny_holding ?_
  exact wpAny_bind (wpAny_pure (wpAny_bind (wpAny_pure (wpAny_pure h'))))
theorem wpStopEA {M : Model} {A : Around} {E : Value → Shared → Prop} {s : Shared} {f : Value} {b : Bool} {args : List (Bool × Sem Value)} {kw : List (Option Str × Sem Value)} {Q : Args → Shared → Prop} (h : wpAny M A (stopQ (evalArgs f b args kw)) Q E s) : wpAny M A (evalArgs f b args kw) Q E s := wpStop h
theorem wpStopBC {M : Model} {A : Around} {E : Value → Shared → Prop} {s : Shared} {n q : Str} {gv : List Value} {kw : List (Str × Value)} {b : List Stmt} {sc : Scope} {st : List Str} {fl : Nat} {e : Env} {p : Pos} {t : Option Value} {Q : Value → Shared → Prop} (h : wpAny M A (stopQ (buildClass n q gv kw b sc st fl e p t)) Q E s) : wpAny M A (buildClass n q gv kw b sc st fl e p t) Q E s := wpStop h
theorem wpStopBN {M : Model} {A : Around} {E : Value → Shared → Prop} {s : Shared} {e : Env} {n : Str} {v : Value} {Q : Unit → Shared → Prop} (h : wpAny M A (stopQ (bindName e n v)) Q E s) : wpAny M A (bindName e n v) Q E s := wpStop h
theorem wpForArr {M : Model} {A : Around} {E : Value → Shared → Prop} {s : Shared} {α β : Type} {l : Array α} {b : β} {f : α → β → Sem (ForInStep β)} {Q : β → Shared → Prop} (h : wpAny M A (forQ l.toList b f) Q E s) : wpAny M A (forIn l b f) Q E s := by
  unfold forQ at h
  rwa [Array.forIn_toList] at h
theorem wpTryS {M : Model} {A : Around} {E : Value → Shared → Prop} {s : Shared} {α : Type} {m : Sem α} {k : Value → Sem α} {Q : α → Shared → Prop} (h : wpAny M A (stopQ m) Q (fun e s' => wpAny M A (k e) Q E s') s) : wpAny M A (Sem.tryCatch m k) Q E s := wpAny_tryCatch (by unfold stopQ at h; exact h)
theorem wpMkS {M : Model} {A : Around} {E : Value → Shared → Prop} {h : Heap} {g : Array GenState} {d : Drawn} {t : Nat} {os : OsState} {x : Str} {Q : Value → Shared → Prop} (hx : x.length ≤ sizeLine) (hq : Q (.str x t) ⟨h, g, d, t + 1, os⟩) : wpAny M A (mkStr x) Q E ⟨h, g, d, t, os⟩ := wpAny_mkStr hq hx
open PySem PySem.W PySem.W.X PyProof.Rows PySem.Calls
set_option Elab.async false
set_option maxRecDepth 100000
set_option maxHeartbeats 4000000
noncomputable def oS (p : Params) : Obj := ((hz.heap_157 p).lookup cStatics).getD default
theorem oS_at {p : Params} {h : Heap} (X : (hz.heap_157 p).In h) : h.get? cStatics = some (oS p) := X _ _ (by kernel_rfl)
theorem slotCM : Slot "classmethod_descriptor" (Str.ofString "__get__") "classmethod_descriptor.__get__" :=
  .of (owner := "classmethod_descriptor") (n := "__get__") (by rw [typeLookup_type, builtinLookup_eq_fast]; kernel_rfl) (by decide +kernel) (by decide +kernel) (by decide +kernel)
    (by first | exact .inl (by decide +kernel) | exact .inr (by decide +kernel)) (by rw [isSubtype_type]; kernel_rfl)
theorem entryCM : entryFor table "classmethod_descriptor.__get__" = some Builtin.«classmethod_descriptor.__get__» := entryFor_of_tree (by kernel_rfl)
theorem superGet {w : World} {A : Around} {E : Value → Shared → Prop} {Q : PySem.Fin → Shared → Prop} {h : Heap} {g : Array GenState} {d : Drawn} {tk : Nat} {os : OsState} {p a nsa : Addr} {t : Tok} {nm qn : Str} {b1 b2 b3 : Bool} {l1 : List Str} {l2 : List Value} {b4 : Option Bool} {dd : Option Addr} {sl : Array (Option Value)} (hS : h.get? cStatics = some (oS w.params))
    (hp : h.get? p = some { cls := .type "super", data := .fields #[.ref a, .ref a, .ref a] })
    (ha : h.get? a = some { cls := .type "type", dict := dd, data := .cls { name := nm, bases := [.type "object"], mro := [.ref a, .type "object"], ns := nsa, qualname := qn, hasDict := b1, slotNames := l1, subclasses := l2, abstract := b2, collection := b4, hasDel := b3 }, slots := sl })
    (q : Q (.done (.ret (.ref h.objs.size))) { heap := h.push { cls := .type "builtin_function_or_method", data := .fields #[.builtin "object.__init_subclass__", .ref a] }, gens := g, drawn := d, toks := tk, os := os }) :
    wpAny (model prg w) A (Builtin.«super.__getattribute__» ⟨[.ref p, .str "__init_subclass__" t], []⟩) Q E ⟨h, g, d, tk, os⟩ := by
  have e1 : nsLook (Str.ofString "thirdparty.any") (oS w.params) = pure none := by kernel_rfl
  have ea : List.drop 1 (List.dropWhile (fun x => x != Value.ref a) [Value.ref a, Value.type "object"]) = [Value.type "object"] := by simp
  have t1 : classOwn (.type "object") (Str.ofString "__init_subclass__") = pure (some (.builtin "object.__init_subclass__")) := by kernel_rfl
  have t2 : typeLookup (.type "classmethod_descriptor") (Str.ofString "__get__") = pure (some (.builtin "classmethod_descriptor.__get__")) := by kernel_rfl
  have t3 : typeOf (.builtin "object.__init_subclass__") = pure (.type "classmethod_descriptor") := by kernel_rfl
  have eo : (".".intercalate ("object.__init_subclass__".cutAt '.').dropLast) = "object" := by decide +kernel
  unfold Builtin.«super.__getattribute__»
  with_reducible refine wpAny_bind ?_
  wp_delta
  with_reducible refine wpAny_pure ?_
  ((with_reducible refine wpAny_ite_false ?_ ?_); focus (with_unfolding_all rfl; done))
  with_reducible refine wpAny_bind ?_
  wp_delta
  with_reducible refine wpAny_pure ?_
  with_reducible refine wpAny_bind ?_
  wp_delta
  with_reducible refine wpAny_bind ?_
  wp_delta
  with_reducible refine wpAny_bind ?_
  with_reducible refine wpAny_load' (by assumption) ?_
  with_reducible refine wpAny_pure ?_
  wp_delta
  with_reducible refine wpAny_pure ?_
  with_reducible refine wpAny_bind ?_
  wp_delta
  with_reducible refine wpAny_bind ?_
  wp_delta
  with_reducible refine wpAny_bind ?_
  with_reducible refine wpAny_load' (by assumption) ?_
  with_reducible refine wpAny_pure ?_
  wp_delta
  with_reducible refine wpAny_pure ?_
  with_reducible refine wpAny_bind ?_
  wp_delta
  with_reducible refine wpAny_bind ?_
  wp_delta
  with_reducible refine wpAny_bind ?_
  with_reducible refine wpAny_load' (by assumption) ?_
  with_reducible refine wpAny_pure ?_
  wp_delta
  with_reducible refine wpAny_pure ?_
  ((with_reducible refine wpAny_ite_false ?_ ?_); focus (with_unfolding_all rfl; done))
  with_reducible refine wpAny_bind ?_
  wp_delta
  with_reducible refine wpAny_bind ?_
  wp_delta
  with_reducible refine wpAny_bind ?_
  wp_delta
  with_reducible refine wpAny_bind ?_
  with_reducible refine wpStopNsGet ?_
  refine ngM hS e1 ?_
  with_reducible refine wpAny_pure ?_
  ((with_reducible refine wpAny_ite_true ?_ ?_); focus (with_unfolding_all rfl; done))
  with_reducible refine wpAny_pure ?_
  with_reducible refine wpAny_pure ?_
  ((with_reducible refine wpAny_ite_false ?_ ?_); focus (with_unfolding_all rfl; done))
  with_reducible refine wpAny_bind ?_
  wp_delta
  with_reducible refine wpAny_bind ?_
  wp_delta
  with_reducible refine wpAny_bind ?_
  with_reducible refine wpAny_load' (by assumption) ?_
  with_reducible refine wpAny_pure ?_
  with_reducible refine wpAny_pure ?_
  with_reducible refine wpAny_bind ?_
  with_reducible refine wpForQ ?_
  change wpAny _ _ (forQ (List.drop 1 (List.dropWhile (fun x => x != Value.ref a) [Value.ref a, Value.type "object"])) _ _) _ _ _
  rw [ea]
  with_reducible refine wpForCons ?_
  with_reducible refine wpAny_bind ?_
  with_reducible refine wpAny_of_eq (by assumption) ?_
  with_reducible refine wpAny_bind ?_
  with_reducible refine wpAny_of_eq (by assumption) ?_
  with_reducible refine wpAny_bind ?_
  with_reducible refine wpAny_of_eq (by assumption) ?_
  with_reducible refine wpAny_bind ?_
  with_reducible refine wpAny_holding ?_
  with_reducible refine wpCallQ ?_
  change wpAny _ _ (callQ (.builtin "classmethod_descriptor.__get__") [.builtin "object.__init_subclass__", if (Value.ref a == Value.ref a) = true then Value.none else Value.ref a, Value.ref a] []) _ _ _
  rw [if_pos (beq_self_eq_true _)]
  have hT : (⟨h, g, d, tk, os⟩ : Shared).TypeIs (.builtin "object.__init_subclass__") "classmethod_descriptor" := t3
  refine wpCallV (wpAny_call_entry slotCM hT entryCM ?_ (by unfold argsOk; kernel_rfl))
  unfold Builtin.«classmethod_descriptor.__get__»
  with_reducible refine wpAny_bind ?_
  wp_delta
  ((with_reducible refine wpAny_ite_false ?_ ?_); focus (with_unfolding_all rfl; done))
  with_reducible refine wpAny_bind ?_
  with_reducible refine wpAny_pure ?_
  ((with_reducible refine wpAny_ite_false ?_ ?_); focus (with_unfolding_all rfl; done))
  with_reducible refine wpAny_pure ?_
  wp_delta
  with_reducible refine wpAny_bind ?_
  with_reducible refine wpAny_pure ?_
  with_reducible refine wpAny_bind ?_
  wp_delta
  with_reducible refine wpAny_bind ?_
  wp_delta
  with_reducible refine wpAny_loadPart' (by assumption) ?_
  with_reducible refine wpAny_pure ?_
  ((with_reducible refine wpAny_ite_false ?_ ?_); focus (with_unfolding_all rfl; done))
  with_reducible refine wpAny_bind ?_
  rw [eo]
  unfold isSubtype
  with_reducible refine wpAny_bind ?_
  wp_delta
  with_reducible refine wpAny_bind ?_
  wp_delta
  with_reducible refine wpAny_bind ?_
  with_reducible refine wpAny_load' (by assumption) ?_
  with_reducible refine wpAny_pure ?_
  with_reducible refine wpAny_pure ?_
  ((with_reducible refine wpAny_ite_false ?_ ?_); focus (with_unfolding_all rfl; done))
  with_reducible refine wpAny_pure ?_
  ((with_reducible refine wpAny_ite_false ?_ ?_); focus (with_unfolding_all rfl; done))
  with_reducible refine wpAny_bind ?_
  wp_delta
  wp_delta
  ((with_reducible refine wpAny_ite_false ?_ ?_); focus (with_unfolding_all rfl; done))
  wp_delta
  wp_delta
  with_reducible refine wpAny_bind ?_
  with_reducible refine wpStopAlloc ?_
  refine wpGo (wpAny_alloc ?_)
  with_reducible refine wpAny_pure ?_
  wp_delta
  with_reducible refine wpAny_pure ?_
  refine ⟨_, rfl, ?_⟩
  with_reducible refine wpAny_bind ?_
  wp_delta
  with_reducible refine wpAny_pure ?_
  with_reducible refine wpAny_pure ?_
  with_reducible refine wpAny_pure ?_
  exact q
open PySem PySem.W PySem.W.X PyProof.Rows PySem.Calls
set_option Elab.async false
set_option maxRecDepth 100000
set_option maxHeartbeats 4000000
section
local macro_rules | `(tactic| x_close) => `(tactic| first | exact ⟨_, _, _, rfl, by assumption, rfl⟩ | (trace_state; fail))
theorem collectL {pp : Program} {w : World} {A : Around} {h : Heap} {g : Array GenState} {d : Drawn} {tk : Nat} {os : OsState} {sl : Addr} {x : Str} {t : Tok} {n : Nat}
    (hsl : h.get? sl = some { cls := .type "list", data := .seq #[.str x t] n }) :
    wpAny (model pp w) A (runValue (.builtin "proto.collect" ⟨[.ref sl], []⟩)) (fun v s' => ∃ (a : Nat) (h' : Heap) (m : Nat), v = .ref a ∧ Mem h h' [] [(a, { cls := .type "list", data := .seq #[.str x t] m })] ∧ s' = ⟨h', g, d, tk, os⟩) (fun _ _ => False) ⟨h, g, d, tk, os⟩ := by
  x_run
end
theorem readSlots {w : World} {A : Around} {E : Value → Shared → Prop} {Q : Builtin.Slots.Plan → Shared → Prop} {h : Heap} {g : Array GenState} {d : Drawn} {tk : Nat} {os : OsState} {sl : Addr} {k : Int} {ky : Value} {u : Tok} {n : Nat} {es : Array DictEntry}
    (hf : es.find? (·.key.isStr (Str.ofString "__slots__")) = some ⟨k, ky, .ref sl⟩) (ha : (es.any (·.key.isStr (Str.ofString "obj"))) = false)
    (hsl : h.get? sl = some { cls := .type "list", data := .seq #[.str (Str.ofString "obj") u] n })
    (q : ∀ h', (∀ b o, h.get? b = some o → h'.get? b = some o) → Q { names := [Str.ofString "obj"], dict := false, weak := false, inherited := [] } { heap := h', gens := g, drawn := d, toks := tk, os := os }) :
    wpAny (model prg w) A (Builtin.Slots.read (Str.ofString "K") [.type "object"] es) Q E ⟨h, g, d, tk, os⟩ := by
  have b1 : Builtin.Slots.bestBase [.type "object"] = pure (.type "object") := by kernel_rfl
  have b2 : Builtin.Slots.slotNamesOf (.type "object") = pure [] := by kernel_rfl
  have b3 : Builtin.Slots.givesDict (.type "object") = pure false := by kernel_rfl
  have b4 : Builtin.Slots.givesWeak (.type "object") = pure false := by kernel_rfl
  have b5 : Builtin.Slots.varSize (.type "object") = pure false := by kernel_rfl
  have i1 : Builtin.Slots.isIdentifier (Str.ofString "obj") = some true := by kernel_rfl
  have i2 : (Str.ofString "obj" == Str.ofString "__dict__") = false := by kernel_rfl
  have i3 : (Str.ofString "obj" == Str.ofString "__weakref__") = false := by kernel_rfl
  have i4 : Builtin.Slots.mangle (Str.ofString "K") (Str.ofString "obj") = Str.ofString "obj" := by kernel_rfl
  have i5 : (Str.ofString "obj" == Str.ofString "__del__") = false := by kernel_rfl
  unfold Builtin.Slots.read
  rw [hf]
  with_reducible refine wpAny_bind ?_
  with_reducible refine wpAny_of_eq (by assumption) ?_
  with_reducible refine wpAny_bind ?_
  with_reducible refine wpAny_of_eq (by assumption) ?_
  with_reducible refine wpAny_bind ?_
  with_reducible refine wpAny_of_eq (by assumption) ?_
  with_reducible refine wpAny_bind ?_
  with_reducible refine wpAny_of_eq (by assumption) ?_
  with_reducible refine wpAny_bind ?_
  with_reducible refine wpAny_of_eq (by assumption) ?_
  with_reducible refine wpAny_bind ?_
  with_reducible refine wpAny_rule ?_
  with_reducible refine wpAny_bind ?_
  wp_delta
  with_reducible refine wpAny_bind ?_
  with_reducible refine wpAny_load' (by assumption) ?_
  with_reducible refine wpAny_pure ?_
  ((with_reducible refine wpAny_ite_false ?_ ?_); focus (with_unfolding_all rfl; done))
  with_reducible refine wpAny_bind ?_
  wp_delta
  with_reducible refine wpAny_bind ?_
  with_reducible refine wpRunQ ?_
  refine wpRunV (wpE (collectL hsl) fun v s' hh => ?_)
  obtain ⟨a, h', m, rfl, D, rfl⟩ := hh
  have ea := D.at 0 _ _ rfl
  have gr := memGrow D
  with_reducible refine wpAny_bind ?_
  with_reducible refine wpAny_load' (by assumption) ?_
  with_reducible refine wpAny_pure ?_
  ((with_reducible refine wpAny_ite_true ?_ ?_); focus (with_unfolding_all rfl; done))
  with_reducible refine wpAny_bind ?_
  with_reducible refine wpAny_of_eq (by assumption) ?_
  ((with_reducible refine wpAny_ite_false ?_ ?_); focus (with_unfolding_all rfl; done))
  with_reducible refine wpAny_bind ?_
  with_reducible refine wpForQ ?_
  with_reducible refine wpForCons ?_
  with_reducible refine wpAny_bind ?_
  wp_delta
  with_reducible refine wpAny_pure ?_
  with_reducible refine wpAny_bind ?_
  with_reducible refine wpAny_pure ?_
  wp_delta
  rw [i1]
  with_reducible refine wpAny_bind ?_
  with_reducible refine wpAny_pure ?_
  ((with_reducible refine wpAny_ite_false ?_ ?_); focus (with_unfolding_all rfl; done))
  ((with_reducible refine wpAny_ite_false ?_ ?_); focus (with_unfolding_all rfl; done))
  ((with_reducible refine wpAny_ite_false ?_ ?_); focus (with_unfolding_all rfl; done))
  with_reducible refine wpAny_pure ?_
  with_reducible refine wpForNil ?_
  with_reducible refine wpAny_bind ?_
  with_reducible refine wpForArr ?_
  change wpAny _ _ (forQ [Str.ofString "obj"] _ _) _ _ _
  with_reducible refine wpForCons ?_
  ((with_reducible refine wpAny_ite_false ?_ ?_); focus (with_unfolding_all rfl; done))
  ((with_reducible refine wpAny_ite_false ?_ ?_); focus ((simp [*]; done); done))
  ((with_reducible refine wpAny_ite_false ?_ ?_); focus (with_unfolding_all rfl; done))
  with_reducible refine wpAny_pure ?_
  with_reducible refine wpForNil ?_
  with_reducible refine wpAny_bind ?_
  with_reducible refine wpForQ ?_
  with_reducible refine wpForCons ?_
  ((with_reducible refine wpAny_ite_false ?_ ?_); focus (with_unfolding_all rfl; done))
  with_reducible refine wpAny_pure ?_
  with_reducible refine wpForNil ?_
  with_reducible refine wpAny_pure ?_
  refine Eq.mpr (congrArg (fun p => Q p _) (?_ : _ = ({ names := [Str.ofString "obj"], dict := false, weak := false, inherited := [] } : Builtin.Slots.Plan))) (q h' gr)
  kernel_rfl
open PySem PySem.W PySem.W.X PyProof.Rows PySem.Calls
set_option Elab.async false
set_option maxRecDepth 100000
set_option maxHeartbeats 4000000
set_option genInjectivity false in
structure KD where
  mv : Str
  t1 : Tok
  t2 : Tok
  t3 : Tok
  fl : Int
  sl : Addr
  f1 : Addr
  f2 : Addr
  f3 : Addr
  f4 : Addr
  f5 : Addr
  f6 : Addr
  st : Addr
  k1 : Int
  u1 : Tok
  k2 : Int
  u2 : Tok
  k3 : Int
  u3 : Tok
  k4 : Int
  u4 : Tok
  k5 : Int
  u5 : Tok
  k6 : Int
  u6 : Tok
  k7 : Int
  u7 : Tok
  k8 : Int
  u8 : Tok
  k9 : Int
  u9 : Tok
  k10 : Int
  u10 : Tok
  k11 : Int
  u11 : Tok
  k12 : Int
  u12 : Tok
@[irreducible] noncomputable def KD.es (c : KD) : Array DictEntry := #[ent c.k1 "__module__" c.u1 (.str c.mv c.t1), ent c.k2 "__qualname__" c.u2 (.str (Str.ofString "cmp_to_key.<locals>.K") c.t2), ent c.k3 "__firstlineno__" c.u3 (.int c.fl c.t3), ent c.k4 "__slots__" c.u4 (.ref c.sl), ent c.k5 "__init__" c.u5 (.ref c.f1), ent c.k6 "__lt__" c.u6 (.ref c.f2), ent c.k7 "__gt__" c.u7 (.ref c.f3), ent c.k8 "__eq__" c.u8 (.ref c.f4), ent c.k9 "__le__" c.u9 (.ref c.f5), ent c.k10 "__ge__" c.u10 (.ref c.f6), ent c.k11 "__hash__" c.u11 .none, ent c.k12 "__static_attributes__" c.u12 (.ref c.st)]
@[irreducible] noncomputable def KD.es2 (c : KD) : Array DictEntry := #[ent c.k1 "__module__" c.u1 (.str c.mv c.t1), ent c.k3 "__firstlineno__" c.u3 (.int c.fl c.t3), ent c.k4 "__slots__" c.u4 (.ref c.sl), ent c.k5 "__init__" c.u5 (.ref c.f1), ent c.k6 "__lt__" c.u6 (.ref c.f2), ent c.k7 "__gt__" c.u7 (.ref c.f3), ent c.k8 "__eq__" c.u8 (.ref c.f4), ent c.k9 "__le__" c.u9 (.ref c.f5), ent c.k10 "__ge__" c.u10 (.ref c.f6), ent c.k11 "__hash__" c.u11 .none, ent c.k12 "__static_attributes__" c.u12 (.ref c.st)]
@[irreducible] noncomputable def KD.es3 (c : KD) (ka : Int) (ta : Tok) (va : Value) : Array DictEntry := #[ent c.k1 "__module__" c.u1 (.str c.mv c.t1), ent c.k3 "__firstlineno__" c.u3 (.int c.fl c.t3), ent c.k4 "__slots__" c.u4 (.ref c.sl), ent c.k5 "__init__" c.u5 (.ref c.f1), ent c.k6 "__lt__" c.u6 (.ref c.f2), ent c.k7 "__gt__" c.u7 (.ref c.f3), ent c.k8 "__eq__" c.u8 (.ref c.f4), ent c.k9 "__le__" c.u9 (.ref c.f5), ent c.k10 "__ge__" c.u10 (.ref c.f6), ent c.k11 "__hash__" c.u11 .none, ent c.k12 "__static_attributes__" c.u12 (.ref c.st), ent ka "obj" ta va]
@[irreducible] noncomputable def KD.es4 (c : KD) (ka : Int) (ta : Tok) (va : Value) (kb : Int) (tb : Tok) : Array DictEntry := #[ent c.k1 "__module__" c.u1 (.str c.mv c.t1), ent c.k3 "__firstlineno__" c.u3 (.int c.fl c.t3), ent c.k4 "__slots__" c.u4 (.ref c.sl), ent c.k5 "__init__" c.u5 (.ref c.f1), ent c.k6 "__lt__" c.u6 (.ref c.f2), ent c.k7 "__gt__" c.u7 (.ref c.f3), ent c.k8 "__eq__" c.u8 (.ref c.f4), ent c.k9 "__le__" c.u9 (.ref c.f5), ent c.k10 "__ge__" c.u10 (.ref c.f6), ent c.k11 "__hash__" c.u11 .none, ent c.k12 "__static_attributes__" c.u12 (.ref c.st), ent ka "obj" ta va, ent kb "__doc__" tb .none]
noncomputable abbrev dO (es : Array DictEntry) (n : Nat) : Obj := { cls := .type "dict", data := .dict es n }
section
variable (c : KD) (n : Nat) (ka kb : Int) (ta tb : Tok) (va : Value)
theorem kd_f : c.es.find? (·.key.isStr (Str.ofString "__slots__")) = some ⟨c.k4, .str (Str.ofString "__slots__") c.u4, .ref c.sl⟩ := by kernel_rfl
theorem kd_a : (c.es.any (·.key.isStr (Str.ofString "obj"))) = false := by kernel_rfl
theorem kd_m : (c.es.any (·.key.isStr (Str.ofString "__module__"))) = true := by kernel_rfl
theorem kd_del : (c.es.any (·.key.isStr (Str.ofString "__del__"))) = false := by kernel_rfl
theorem kd_e : c.es.isEmpty = false := by kernel_rfl
theorem kd_q1 : nsLook (Str.ofString "__qualname__") (dO c.es n) = pure (some (.str (Str.ofString "cmp_to_key.<locals>.K") c.t2)) := by kernel_rfl
theorem kd_d1 : nsLook (Str.ofString "__doc__") (dO c.es n) = pure none := by kernel_rfl
theorem kd_h1 : nsHas (Str.ofString "__qualname__") (dO c.es n) = pure true := by kernel_rfl
theorem kd_x1 : Obj.dropName (Str.ofString "__qualname__") (dO c.es n) = dO c.es2 (n + 1) := by kernel_rfl
theorem kd_n2 : nsLook (Str.ofString "__new__") (dO c.es2 n) = pure none := by kernel_rfl
theorem kd_i2 : nsLook (Str.ofString "__init_subclass__") (dO c.es2 n) = pure none := by kernel_rfl
theorem kd_g2 : nsLook (Str.ofString "__class_getitem__") (dO c.es2 n) = pure none := by kernel_rfl
theorem kd_c2 : nsLook (Str.ofString "__classcell__") (dO c.es2 n) = pure none := by kernel_rfl
theorem kd_cc2 : nsLook (Str.ofString "__classdictcell__") (dO c.es2 n) = pure none := by kernel_rfl
theorem kd_o2 : nsLook (Str.ofString "obj") (dO c.es2 n) = pure none := by kernel_rfl
theorem kd_r2 : aRefKeyMayBeTheName (Str.ofString "obj") c.es2 = false := by kernel_rfl
theorem kd_x2 : Obj.putName (Str.ofString "obj") ka (.str (Str.ofString "obj") ta) va (dO c.es2 n) = dO (c.es3 ka ta va) (n + 1) := by kernel_rfl
theorem kd_d3 : nsLook (Str.ofString "__doc__") (dO (c.es3 ka ta va) n) = pure none := by kernel_rfl
theorem kd_r3 : aRefKeyMayBeTheName (Str.ofString "__doc__") (c.es3 ka ta va) = false := by kernel_rfl
theorem kd_x3 : Obj.putName (Str.ofString "__doc__") kb (.str (Str.ofString "__doc__") tb) .none (dO (c.es3 ka ta va) n) = dO (c.es4 ka ta va kb tb) (n + 1) := by kernel_rfl
theorem kd_e4 : nsLook (Str.ofString "__eq__") (dO (c.es4 ka ta va kb tb) n) = pure (some (.ref c.f4)) := by kernel_rfl
theorem kd_h4 : nsLook (Str.ofString "__hash__") (dO (c.es4 ka ta va kb tb) n) = pure (some .none) := by kernel_rfl
end
open PySem PySem.W PySem.W.X PyProof.Rows PySem.Calls
set_option Elab.async false
set_option maxRecDepth 100000
set_option maxHeartbeats 4000000
noncomputable abbrev kCls (cd : ClassData) (sl : Array (Option Value)) : Obj := { cls := .type "type", data := .cls cd, slots := sl }
noncomputable abbrev kD0 (ns : Addr) : ClassData := { name := Str.ofString "K", bases := [.type "object"], mro := [], ns := ns, qualname := Str.ofString "cmp_to_key.<locals>.K" }
noncomputable abbrev kD1 (a ns : Addr) : ClassData := { name := Str.ofString "K", bases := [.type "object"], mro := [.ref a, .type "object"], ns := ns, qualname := Str.ofString "cmp_to_key.<locals>.K" }
noncomputable abbrev kD2 (a ns : Addr) : ClassData := { name := Str.ofString "K", bases := [.type "object"], mro := [.ref a, .type "object"], ns := ns, qualname := Str.ofString "cmp_to_key.<locals>.K", hasDict := false, slotNames := [Str.ofString "obj"] }
noncomputable abbrev mdO (a : Addr) (t : Tok) : Obj := { cls := .type "member_descriptor", data := .fields #[.str (Str.ofString "obj") t, .ref a, .builtin "proto.slot", .builtin "proto.slot#set", rawInt 0] }
section
variable {M : Model} {A : Around} {E : Value → Shared → Prop} {h0 h : Heap} {g : Array GenState} {d : Drawn} {tk : Nat} {os : OsState} {chg news : List (Addr × Obj)}
theorem wpForStay {α β : Type} {s : Shared} {l : List α} {b : β} {f : α → β → Sem (ForInStep β)} {Q : β → Shared → Prop} (hf : ∀ e ∈ l, ∀ (P : ForInStep β → Shared → Prop), P (.yield b) s → wpAny M A (f e b) P E s) (q : Q b s) : wpAny M A (forQ l b f) Q E s := by
  induction l with
  | nil => exact wpForNil q
  | cons a l ih => exact wpForCons (hf a (.head _) _ (ih fun e he => hf e (.tail _ he)))
theorem tlK {a : Addr} {o : Obj} {c : Value} {dd : Option Addr} {cd : ClassData} {sl : Array (Option Value)} {nm : Str} {r : Option Value} {Q : Option Value → Shared → Prop}
    (ha : h.get? a = some ⟨c, dd, .cls cd, sl⟩) (hm : cd.mro = [.ref a, .type "object"]) (hns : h.get? cd.ns = some o) (e : nsLook nm o = pure none) (e2 : builtinOwn "object" nm = r)
    (q : Q r ⟨h, g, d, tk, os⟩) : wpAny M A (typeLookup (.ref a) nm) Q E ⟨h, g, d, tk, os⟩ := by
  unfold typeLookup
  with_reducible refine wpAny_bind ?_
  wp_delta
  with_reducible refine wpAny_bind ?_
  wp_delta
  with_reducible refine wpAny_bind ?_
  with_reducible refine wpAny_load' (by assumption) ?_
  with_reducible refine wpAny_pure ?_
  with_reducible refine wpAny_pure ?_
  with_reducible refine wpAny_bind ?_
  with_reducible refine wpForQ ?_
  rw [hm]
  with_reducible refine wpForCons ?_
  with_reducible refine wpAny_bind ?_
  wp_delta
  with_reducible refine wpAny_bind ?_
  wp_delta
  with_reducible refine wpAny_bind ?_
  with_reducible refine wpAny_load' (by assumption) ?_
  with_reducible refine wpAny_pure ?_
  with_reducible refine wpStopNsGet ?_
  refine ngM hns e ?_
  with_reducible refine wpAny_pure ?_
  with_reducible refine wpForCons ?_
  with_reducible refine wpAny_bind ?_
  wp_delta
  with_reducible refine wpAny_pure ?_
  rw [e2]
  cases r with
  | none => (with_reducible refine wpAny_pure ?_; with_reducible refine wpForNil ?_; with_reducible refine wpAny_pure ?_); exact q
  | some r => (with_reducible refine wpAny_pure ?_; with_reducible refine wpAny_pure ?_); exact q
theorem tlKS {a : Addr} {o : Obj} {c : Value} {dd : Option Addr} {cd : ClassData} {sl : Array (Option Value)} {nm : Str} {r : Value} {Q : Option Value → Shared → Prop}
    (ha : h.get? a = some ⟨c, dd, .cls cd, sl⟩) (hm : cd.mro = [.ref a, .type "object"]) (hns : h.get? cd.ns = some o) (e : nsLook nm o = pure (some r))
    (q : Q (some r) ⟨h, g, d, tk, os⟩) : wpAny M A (typeLookup (.ref a) nm) Q E ⟨h, g, d, tk, os⟩ := by
  unfold typeLookup
  with_reducible refine wpAny_bind ?_
  wp_delta
  with_reducible refine wpAny_bind ?_
  wp_delta
  with_reducible refine wpAny_bind ?_
  with_reducible refine wpAny_load' (by assumption) ?_
  with_reducible refine wpAny_pure ?_
  with_reducible refine wpAny_pure ?_
  with_reducible refine wpAny_bind ?_
  with_reducible refine wpForQ ?_
  rw [hm]
  with_reducible refine wpForCons ?_
  with_reducible refine wpAny_bind ?_
  wp_delta
  with_reducible refine wpAny_bind ?_
  wp_delta
  with_reducible refine wpAny_bind ?_
  with_reducible refine wpAny_load' (by assumption) ?_
  with_reducible refine wpAny_pure ?_
  with_reducible refine wpStopNsGet ?_
  refine ngM hns e ?_
  with_reducible refine wpAny_pure ?_
  with_reducible refine wpAny_pure ?_
  exact q
end
theorem instK {w : World} {A : Around} {E : Value → Shared → Prop} {Q : Unit → Shared → Prop} {h0 h : Heap} {g : Array GenState} {d : Drawn} {tk : Nat} {os : OsState} {a ns : Addr} {chg : List (Addr × Obj)} {n : Nat} {sl : Array (Option Value)} (c : KD)
    (D : Mem h0 h chg [(a, kCls (kD1 a ns) sl), (ns, dO c.es2 n)])
    (q : ∀ m h' tk' k t t2, Mem h0 h' chg [(m, mdO a t2), (a, kCls (kD2 a ns) sl), (ns, dO (c.es3 k t (.ref m)) (n + 1))] → Q () ⟨h', g, d, tk', os⟩) :
    wpAny (model prg w) A (Builtin.Slots.install (.ref a) ns [.type "object"] { names := [Str.ofString "obj"], dict := false, weak := false, inherited := [] }) Q E ⟨h, g, d, tk, os⟩ := by
  have b3 : Builtin.Slots.givesDict (.type "object") = pure false := by kernel_rfl
  unfold Builtin.Slots.install
  with_reducible refine wpAny_bind ?_
  with_reducible refine wpForQ ?_
  with_reducible refine wpForCons ?_
  with_reducible refine wpAny_bind ?_
  with_reducible refine wpStopNsGet ?_
  refine ngM (D.at 1 _ _ rfl) (kd_o2 c n) ?_
  unfold newFields newObj newObjAsIs
  ((with_reducible refine wpAny_ite_true ?_ ?_); focus (with_unfolding_all rfl; done))
  with_reducible refine wpAny_bind ?_
  ((with_reducible refine wpMkS ?_ ?_); focus (size_fits; done))
  with_reducible refine wpAny_bind ?_
  ((with_reducible refine wpAny_ite_false ?_ ?_); focus (with_unfolding_all rfl; done))
  with_reducible refine wpAny_bind ?_
  with_reducible refine wpStopAlloc ?_
  refine alM D rfl fun m h1 D => ?_
  have e := D.at 2 _ _ rfl
  with_reducible refine wpAny_pure ?_
  with_reducible refine wpAny_bind ?_
  wp_delta
  with_reducible refine wpAny_bind ?_
  with_reducible refine wpAny_loadPart' (by assumption) ?_
  ((with_reducible refine wpAny_ite_false ?_ ?_); focus (with_unfolding_all rfl; done))
  with_reducible refine wpStopNsSet ?_
  skip
  refine nsM D 2 rfl (kd_r2 c) (kd_x2 c n _ _ _) rfl fun h2 D => ?_
  clear e
  with_reducible refine wpAny_pure ?_
  with_reducible refine wpForNil ?_
  with_reducible refine wpAny_bind ?_
  with_reducible refine wpForQ ?_
  with_reducible refine wpForCons ?_
  with_reducible refine wpAny_bind ?_
  with_reducible refine wpAny_of_eq (by assumption) ?_
  ((with_reducible refine wpAny_ite_false ?_ ?_); focus (with_unfolding_all rfl; done))
  with_reducible refine wpAny_pure ?_
  with_reducible refine wpForNil ?_
  ((with_reducible refine wpAny_ite_false ?_ ?_); focus (with_unfolding_all rfl; done))
  with_reducible refine wpStopCls ?_
  refine ucM (o' := kCls (kD2 a ns) sl) D 1 rfl (by kernel_rfl) (by kernel_rfl) rfl fun h3 D => ?_
  exact q _ _ _ _ _ _ D
open PySem PySem.W PySem.W.X PyProof.Rows PySem.Calls
set_option Elab.async false
set_option maxRecDepth 100000
set_option maxHeartbeats 4000000
noncomputable def K2 (p : Params) : Frag := (hz.heap_157 p).filter fun x => decide (x.1 ∉ tabs)
theorem lookup_tabs {l : List (Addr × Obj)} {a : Addr} {o : Obj} (e : (l.filter fun x => decide (x.1 ∉ tabs)).lookup a = some o) : l.lookup a = some o ∧ a ∉ tabs := by
  induction l with
  | nil => simp at e
  | cons x l ih =>
    rw [List.filter_cons] at e
    by_cases hx : x.1 ∈ tabs
    · rw [if_neg (by simpa using hx)] at e
      obtain ⟨e1, e2⟩ := ih e
      have hne : (a == x.1) = false := beq_eq_false_iff_ne.mpr fun q => e2 (q ▸ hx)
      rw [List.lookup_cons, hne]
      exact ⟨e1, e2⟩
    · rw [if_pos (by simpa using hx), List.lookup_cons] at e
      rw [List.lookup_cons]
      by_cases hq : a = x.1
      · subst hq
        simp only [beq_self_eq_true] at e ⊢
        exact ⟨e, hx⟩
      · rw [show (a == x.1) = false from beq_eq_false_iff_ne.mpr hq] at e ⊢
        exact ih e
theorem K2_in {B : Bs} {P : PM} {s : Shared} (ok : Ok B) (wd : Wd B P s) : (K2 B.w.params).In s.heap := fun a o e => wd.base (ok.X _ _ (lookup_tabs e).1) (lookup_tabs e).2
section
local macro_rules | `(tactic| x_close) => `(tactic| first | exact ⟨_, _, rfl, by assumption, rfl⟩ | exact ⟨rfl, rfl⟩ | (trace_state; fail))
theorem superNew {pp : Program} {w : World} {A : Around} {h : Heap} {g : Array GenState} {d : Drawn} {tk : Nat} {os : OsState} {a ns : Addr} {sl : Array (Option Value)} (c : KD) {k k' : Int} {t t' : Tok} {v : Value} {n : Nat}
    (X : (K2 w.params).In h)
    (hns : h.get? ns = some { cls := .type "dict", data := .dict (c.es4 k t v k' t') n })
    (ha : h.get? a = some (kCls (kD2 a ns) sl)) :
    wpAny (model pp w) A (call (.type "super") [.ref a, .ref a]) (fun v s' => ∃ (p : Nat) (h' : Heap), v = .ref p ∧ Mem h h' [] [(p, { cls := .type "super", data := .fields #[.ref a, .ref a, .ref a] })] ∧ s' = ⟨h', g, d, tk, os⟩) (fun _ _ => False) ⟨h, g, d, tk, os⟩ := by
  unfold kCls kD2 at ha
  x_run
theorem initSub {pp : Program} {w : World} {A : Around} {h : Heap} {g : Array GenState} {d : Drawn} {tk : Nat} {os : OsState} {a b ns : Addr} {sl : Array (Option Value)} (c : KD) {k k' : Int} {t t' : Tok} {v : Value} {n : Nat} (X : (K2 w.params).In h)
    (hns : h.get? ns = some { cls := .type "dict", data := .dict (c.es4 k t v k' t') n })
    (ha : h.get? a = some (kCls (kD2 a ns) sl))
    (hb : h.get? b = some { cls := .type "builtin_function_or_method", data := .fields #[.builtin "object.__init_subclass__", .ref a] }) :
    wpAny (model pp w) A (call (.ref b) []) (fun v s' => v = .none ∧ s' = ⟨h, g, d, tk, os⟩) (fun _ _ => False) ⟨h, g, d, tk, os⟩ := by
  unfold kCls kD2 at ha
  x_run
end
open PySem PySem.W PySem.W.X PyProof.Rows PySem.Calls
set_option Elab.async false
set_option maxRecDepth 100000
set_option maxHeartbeats 4000000
theorem slotSG : Slot "super" (Str.ofString "__getattribute__") "super.__getattribute__" :=
  .of (owner := "super") (n := "__getattribute__") (by rw [typeLookup_type, builtinLookup_eq_fast]; kernel_rfl) (by decide +kernel) (by decide +kernel) (by decide +kernel)
    (by first | exact .inl (by decide +kernel) | exact .inr (by decide +kernel)) (by rw [isSubtype_type]; kernel_rfl)
theorem entrySG : entryFor table "super.__getattribute__" = some Builtin.«super.__getattribute__» := entryFor_of_tree (by kernel_rfl)
theorem initGet {w : World} {A : Around} {E : Value → Shared → Prop} {Q : Value → Shared → Prop} {h : Heap} {g : Array GenState} {d : Drawn} {tk : Nat} {os : OsState} {p a ns : Addr} {sl : Array (Option Value)}
    (hS : h.get? cStatics = some (oS w.params))
    (ha : h.get? a = some (kCls (kD2 a ns) sl))
    (hp : h.get? p = some { cls := .type "super", data := .fields #[.ref a, .ref a, .ref a] })
    (q : ∀ b h' tk', Mem h h' [] [(b, { cls := .type "builtin_function_or_method", data := .fields #[.builtin "object.__init_subclass__", .ref a] })] → Q (.ref b) ⟨h', g, d, tk', os⟩) :
    wpAny (model prg w) A (getAttr (.ref p) (Str.ofString "__init_subclass__")) Q E ⟨h, g, d, tk, os⟩ := by
  unfold getAttr
  with_reducible refine wpAny_bind ?_
  wp_delta
  with_reducible refine wpAny_bind ?_
  with_reducible refine wpAny_fresh' ?_
  with_reducible refine wpAny_pure ?_
  wp_delta
  with_reducible refine wpAny_holding ?_
  with_reducible refine wpAny_bind ?_
  wp_delta
  with_reducible refine wpAny_bind ?_
  with_reducible refine wpAny_loadPart' (by assumption) ?_
  with_reducible refine wpAny_pure ?_
  with_reducible refine wpAny_bind ?_
  refine wpAny_of_eq (show typeLookup (.type "super") (Str.ofString "__getattribute__") = pure (some (.builtin "super.__getattribute__")) by kernel_rfl) ?_
  have tf : typeOf (.builtin "super.__getattribute__") = pure (.type "wrapper_descriptor") := by kernel_rfl
  ((with_reducible refine wpAny_ite_false ?_ ?_); focus (with_unfolding_all rfl; done))
  wp_delta
  with_reducible refine wpAny_bind ?_
  wp_delta
  ((with_reducible refine wpAny_ite_false ?_ ?_); focus (with_unfolding_all rfl; done))
  with_reducible refine wpAny_pure ?_
  with_reducible refine wpAny_bind ?_
  with_reducible refine wpAny_attempt ?_
  with_reducible refine wpAny_holding ?_
  wp_delta
  ((with_reducible refine wpAny_ite_false ?_ ?_); focus (with_unfolding_all rfl; done))
  wp_delta
  with_reducible refine wpAny_bind ?_
  unfold bindSpecial
  with_reducible refine wpAny_bind ?_
  with_reducible refine wpAny_of_eq (by assumption) ?_
  ((with_reducible refine wpAny_ite_true ?_ ?_); focus (with_unfolding_all rfl; done))
  with_reducible refine wpAny_pure ?_
  with_reducible refine wpCallQ ?_
  refine wpCallV (wpAny_call_entry slotSG ⟨_, hp, rfl⟩ entrySG (superGet hS hp ha ⟨_, rfl, ?_⟩) (by unfold argsOk; kernel_rfl))
  wp_delta
  wp_delta
  with_reducible refine wpAny_pure ?_
  exact q _ _ _ ((Mem.start h).alloc rfl)
theorem es4_ty (c : KD) {h : Heap} {k k' : Int} {t t' : Tok} {m : Addr} (hfn : ∀ f ∈ [c.f1, c.f2, c.f3, c.f4, c.f5, c.f6], ∃ o, h.get? f = some o ∧ o.cls = .type "function")
    (hst : ∃ o, h.get? c.st = some o ∧ o.cls = .type "tuple") (hsl : ∃ o, h.get? c.sl = some o ∧ o.cls = .type "list") (hm : ∃ o, h.get? m = some o ∧ o.cls = .type "member_descriptor") :
    ∀ e ∈ (c.es4 k t (.ref m) k' t').toList, (∃ x u, e.key = .str x u) ∧ Builtin.laidUnderItsOwnName e.key e.val = false ∧ ∃ T, (∀ s : Shared, s.heap = h → s.TypeIs e.val T) ∧ typeLookup (.type T) (Str.ofString "__set_name__") = pure none := by
  have fn : ∀ f ∈ [c.f1, c.f2, c.f3, c.f4, c.f5, c.f6], ∃ T, (∀ s : Shared, s.heap = h → s.TypeIs (.ref f) T) ∧ typeLookup (.type T) (Str.ofString "__set_name__") = pure none := fun f hf => ⟨"function", fun s e => by subst e; exact hfn f hf, by kernel_rfl⟩
  unfold KD.es4
  simp only [List.forall_mem_cons]
  refine ⟨⟨⟨_, _, rfl⟩, rfl, "str", fun s _ => rfl, by kernel_rfl⟩, ⟨⟨_, _, rfl⟩, rfl, "int", fun s _ => rfl, by kernel_rfl⟩, ⟨⟨_, _, rfl⟩, rfl, "list", fun s e => by subst e; exact hsl, by kernel_rfl⟩, ⟨⟨_, _, rfl⟩, rfl, fn _ (by simp)⟩, ⟨⟨_, _, rfl⟩, rfl, fn _ (by simp)⟩, ⟨⟨_, _, rfl⟩, rfl, fn _ (by simp)⟩, ⟨⟨_, _, rfl⟩, rfl, fn _ (by simp)⟩, ⟨⟨_, _, rfl⟩, rfl, fn _ (by simp)⟩, ⟨⟨_, _, rfl⟩, rfl, fn _ (by simp)⟩, ⟨⟨_, _, rfl⟩, rfl, "NoneType", fun s _ => rfl, by kernel_rfl⟩, ⟨⟨_, _, rfl⟩, rfl, "tuple", fun s e => by subst e; exact hst, by kernel_rfl⟩, ⟨⟨_, _, rfl⟩, rfl, "member_descriptor", fun s e => by subst e; exact hm, by kernel_rfl⟩, ⟨⟨_, _, rfl⟩, rfl, "NoneType", fun s _ => rfl, by kernel_rfl⟩, fun _ h => (nomatch h)⟩
open PySem PySem.W PySem.W.X PyProof.Rows PySem.Calls
set_option Elab.async false
set_option maxRecDepth 100000
set_option maxHeartbeats 4000000
theorem typeNew {w : World} {A : Around} {E : Value → Shared → Prop} {Q : PySem.Fin → Shared → Prop} {h : Heap} {g : Array GenState} {d : Drawn} {tk : Nat} {os : OsState} {bt nsA : Addr} {t0 u : Tok} {n m : Nat} (c : KD)
    (X : (K2 w.params).In h) (hfn : ∀ f ∈ [c.f1, c.f2, c.f3, c.f4, c.f5, c.f6], ∃ o, h.get? f = some o ∧ o.cls = .type "function") (hst : ∃ o, h.get? c.st = some o ∧ o.cls = .type "tuple")
    (hb : h.get? bt = some { cls := .type "tuple", data := .seq #[.type "object"] })
    (hn : h.get? nsA = some { cls := .type "dict", data := .dict c.es n })
    (hne : (nsA == sysModules) = false)
    (hsl : h.get? c.sl = some { cls := .type "list", data := .seq #[.str (Str.ofString "obj") u] m })
    (q : ∀ (a ns md : Addr) (h' : Heap) (tk' : Nat) (kx kx' : Int) (tx tx' ty : Tok) (nx : Nat), (∀ b o, h.get? b = some o → h'.get? b = some o) → h.get? a = none → h.get? ns = none → h.get? md = none →
      h'.get? a = some (kCls (kD2 a ns) #[some (.ref bt), none, some (.str (Str.ofString "K") t0), some (.str (Str.ofString "cmp_to_key.<locals>.K") c.t2), some (.builtin "object.__new__"), some (.bool false)]) →
      h'.get? ns = some (dO (c.es4 kx tx (.ref md) kx' tx') nx) → h'.get? md = some (mdO a ty) → Q (.done (.ret (.ref a))) { heap := h', gens := g, drawn := d, toks := tk', os := os }) :
    wpAny (model prg w) A (Builtin.«type.__new__» ⟨[.type "type", .str (Str.ofString "K") t0, .ref bt, .ref nsA], []⟩) Q E ⟨h, g, d, tk, os⟩ := by
  have hS : h.get? cStatics = some (oS w.params) := X _ _ (by kernel_rfl)
  have hsl' : ∃ o, h.get? c.sl = some o ∧ o.cls = .type "list" := ⟨_, hsl, rfl⟩
  have s1 : isSubtype (.type "tuple") (.type "tuple") = pure true := by kernel_rfl
  have s2 : isSubtype (.type "dict") (.type "dict") = pure true := by kernel_rfl
  have s3 : isSubtype (.type "type") (.type "type") = pure true := by kernel_rfl
  have s4 : isType (.type "object") = pure true := by kernel_rfl
  have ty1 : typeOf (.type "object") = pure (.type "type") := by kernel_rfl
  have n1 : Builtin.notOverATurnedClass [.type "object"] = pure () := by kernel_rfl
  have n2 : Builtin.extendedBase [.type "object"] = pure (.type "object") := by kernel_rfl
  have l1 : typeLookup (.type "dict") (Str.ofString "__iter__") = pure (some (.builtin "dict.__iter__")) := by kernel_rfl
  have hem := kd_e c
  have b4 : Builtin.Slots.givesWeak (.type "object") = pure false := by kernel_rfl
  have nsb : ∀ a, Builtin.noteSubclassOfBuiltin "object" a = pure () := fun a => by kernel_rfl
  have mh : Builtin.mroHook? (.type "type") = pure none := by kernel_rfl
  have ln : Builtin.linearize [.type "object"] mroOf = pure [.type "object"] := by kernel_rfl
  have mb : Bind.madeBy (.type "object") = pure (some "object.__new__") := by kernel_rfl
  have hsz : decide (c.es.size > sizeLine + 1) = false := by kernel_rfl
  have hm := kd_m c
  have ic : ((Str.ofString "K").cps.any fun c => decide (0xD800 ≤ c) && decide (c ≤ 0xDFFF)) = false := by kernel_rfl
  have nc : (Str.ofString "K").cps.contains 0 = false := by kernel_rfl
  unfold Builtin.«type.__new__»
  have eg : ((some #[Value.type "object"]).getD #[]).toList = [Value.type "object"] := rfl
  have eg2 : (if ([Value.type "object"] : List Value).isEmpty = true then [Value.type "object"] else [Value.type "object"]) = [Value.type "object"] := rfl
  with_reducible refine wpAny_bind ?_
  wp_delta
  with_reducible refine wpAny_pure ?_
  with_reducible refine wpAny_bind ?_
  wp_delta
  with_reducible refine wpAny_bind ?_
  wp_delta
  with_reducible refine wpAny_bind ?_
  with_reducible refine wpAny_loadPart' (by assumption) ?_
  with_reducible refine wpAny_pure ?_
  with_reducible refine wpAny_of_eq (by assumption) ?_
  ((with_reducible refine wpAny_ite_false ?_ ?_); focus (with_unfolding_all rfl; done))
  with_reducible refine wpAny_bind ?_
  wp_delta
  with_reducible refine wpAny_bind ?_
  wp_delta
  with_reducible refine wpAny_bind ?_
  with_reducible refine wpAny_loadPart' (by assumption) ?_
  with_reducible refine wpAny_pure ?_
  with_reducible refine wpAny_of_eq (by assumption) ?_
  ((with_reducible refine wpAny_ite_false ?_ ?_); focus (with_unfolding_all rfl; done))
  with_reducible refine wpAny_bind ?_
  wp_delta
  with_reducible refine wpAny_bind ?_
  with_reducible refine wpAny_load' (by assumption) ?_
  with_reducible refine wpAny_pure ?_
  ((with_reducible refine wpAny_ite_false ?_ ?_); focus (with_unfolding_all rfl; done))
  with_reducible refine wpAny_bind ?_
  with_reducible refine wpForQ ?_
  rw [eg, eg2]
  with_reducible refine wpForCons ?_
  with_reducible refine wpAny_bind ?_
  with_reducible refine wpAny_of_eq (by assumption) ?_
  ((with_reducible refine wpAny_ite_false ?_ ?_); focus (with_unfolding_all rfl; done))
  with_reducible refine wpAny_pure ?_
  with_reducible refine wpForNil ?_
  with_reducible refine wpAny_bind ?_
  with_reducible refine wpForQ ?_
  with_reducible refine wpForCons ?_
  with_reducible refine wpAny_bind ?_
  with_reducible refine wpAny_of_eq (by assumption) ?_
  with_reducible refine wpAny_bind ?_
  with_reducible refine wpAny_of_eq (by assumption) ?_
  ((with_reducible refine wpAny_ite_true ?_ ?_); focus (with_unfolding_all rfl; done))
  with_reducible refine wpAny_pure ?_
  with_reducible refine wpForNil ?_
  ((with_reducible refine wpAny_ite_false ?_ ?_); focus (with_unfolding_all rfl; done))
  with_reducible refine wpAny_bind ?_
  with_reducible refine wpAny_of_eq (by assumption) ?_
  with_reducible refine wpAny_bind ?_
  with_reducible refine wpAny_of_eq (by assumption) ?_
  ((with_reducible refine wpAny_ite_false ?_ ?_); focus ((simp [*]; done); done))
  with_reducible refine wpAny_bind ?_
  wp_delta
  with_reducible refine wpAny_bind ?_
  with_reducible refine wpAny_loadPart' (by assumption) ?_
  with_reducible refine wpAny_pure ?_
  with_reducible refine wpAny_bind ?_
  wp_delta
  with_reducible refine wpAny_bind ?_
  wp_delta
  with_reducible refine wpAny_bind ?_
  with_reducible refine wpAny_loadPart' (by assumption) ?_
  with_reducible refine wpAny_pure ?_
  with_reducible refine wpAny_of_eq (by assumption) ?_
  ((with_reducible refine wpAny_ite_true ?_ ?_); focus (with_unfolding_all rfl; done))
  with_reducible refine wpAny_bind ?_
  with_reducible refine wpAny_pure ?_
  with_reducible refine wpAny_bind ?_
  with_reducible refine wpAny_holding ?_
  with_reducible refine wpStopRead ?_
  refine wpGo (readSlots (kd_f c) (kd_a c) hsl fun h1 gr => ?_)
  have hS := gr _ _ hS
  have hb := gr _ _ hb
  clear hn hsl
  unfold newObj newObjAsIs
  with_reducible refine wpAny_bind ?_
  ((with_reducible refine wpAny_ite_false ?_ ?_); focus (with_unfolding_all rfl; done))
  with_reducible refine wpAny_bind ?_
  with_reducible refine wpStopAlloc ?_
  refine alM (Mem.start h1) rfl fun ns h2 D => ?_
  with_reducible refine wpAny_pure ?_
  ((with_reducible refine wpAny_ite_false ?_ ?_); focus (with_unfolding_all rfl; done))
  with_reducible refine wpAny_bind ?_
  ((with_reducible refine wpAny_ite_false ?_ ?_); focus (with_unfolding_all rfl; done))
  with_reducible refine wpAny_pure ?_
  ((with_reducible refine wpAny_ite_false ?_ ?_); focus (with_unfolding_all rfl; done))
  with_reducible refine wpAny_bind ?_
  with_reducible refine wpStopNsGet ?_
  skip
  refine ngM (D.at 0 _ _ rfl) (kd_q1 c 0) ?_
  with_reducible refine wpAny_bind ?_
  with_reducible refine wpStopNsGet ?_
  refine ngM (D.at 0 _ _ rfl) (kd_q1 c 0) ?_
  with_reducible refine wpAny_bind ?_
  wp_delta
  with_reducible refine wpAny_pure ?_
  with_reducible refine wpAny_bind ?_
  with_reducible refine wpAny_pure ?_
  with_reducible refine wpAny_bind ?_
  with_reducible refine wpStopNsGet ?_
  refine ngM (D.at 0 _ _ rfl) (kd_d1 c 0) ?_
  with_reducible refine wpAny_bind ?_
  with_reducible refine wpStopAlloc ?_
  refine alM D rfl fun a h3 D => ?_
  ((with_reducible refine wpAny_ite_true ?_ ?_); focus (with_unfolding_all rfl; done))
  with_reducible refine wpAny_bind ?_
  with_reducible refine wpStopSlot ?_
  refine ssM (o' := kCls (kD0 ns) #[some (.ref bt)]) D 0 rfl (by kernel_rfl) (by kernel_rfl) rfl fun h3 D => ?_
  with_reducible refine wpAny_bind ?_
  with_reducible refine wpStopSlot ?_
  refine ssM (o' := kCls (kD0 ns) #[some (.ref bt), none, some (.str (Str.ofString "K") t0)]) D 0 rfl (by kernel_rfl) (by kernel_rfl) rfl fun h3 D => ?_
  wp_delta
  with_reducible refine wpAny_bind ?_
  with_reducible refine wpStopSlot ?_
  refine ssM (o' := kCls (kD0 ns) #[some (.ref bt), none, some (.str (Str.ofString "K") t0), some (.str (Str.ofString "cmp_to_key.<locals>.K") c.t2)]) D 0 rfl (by kernel_rfl) (by kernel_rfl) rfl fun h3 D => ?_
  with_reducible refine wpAny_bind ?_
  with_reducible refine wpStopNsDel ?_
  refine ndM D 1 rfl (kd_h1 c 0) (kd_x1 c 0) rfl fun h3 D => ?_
  with_reducible refine wpAny_bind ?_
  with_reducible refine wpStopNsGet ?_
  refine ngM (D.at 1 _ _ rfl) (kd_n2 c 1) ?_
  with_reducible refine wpAny_bind ?_
  with_reducible refine wpForQ ?_
  with_reducible refine wpForCons ?_
  with_reducible refine wpAny_bind ?_
  with_reducible refine wpStopNsGet ?_
  refine ngM (D.at 1 _ _ rfl) (kd_i2 c 1) ?_
  with_reducible refine wpAny_pure ?_
  with_reducible refine wpForCons ?_
  with_reducible refine wpAny_bind ?_
  with_reducible refine wpStopNsGet ?_
  refine ngM (D.at 1 _ _ rfl) (kd_g2 c 1) ?_
  with_reducible refine wpAny_pure ?_
  with_reducible refine wpForNil ?_
  with_reducible refine wpAny_bind ?_
  with_reducible refine wpStopNsGet ?_
  refine ngM (D.at 1 _ _ rfl) (kd_c2 c 1) ?_
  with_reducible refine wpAny_bind ?_
  with_reducible refine wpStopNsGet ?_
  refine ngM (D.at 1 _ _ rfl) (kd_cc2 c 1) ?_
  with_reducible refine wpAny_bind ?_
  with_reducible refine wpAny_of_eq (by assumption) ?_
  with_reducible refine wpAny_bind ?_
  with_reducible refine wpAny_of_eq (by assumption) ?_
  with_reducible refine wpAny_bind ?_
  with_reducible refine wpAny_pure ?_
  with_reducible refine wpAny_bind ?_
  rw [show List.filter (fun x => x != Value.ref a) [Value.ref a, Value.type "object"] = [Value.type "object"] by simp]
  refine wpAny_of_eq (show List.anyM _ [Value.type "object"] = pure false by kernel_rfl) ?_
  with_reducible refine wpAny_bind ?_
  with_reducible refine wpStopCls ?_
  refine ucM (o' := kCls (kD1 a ns) #[some (.ref bt), none, some (.str (Str.ofString "K") t0), some (.str (Str.ofString "cmp_to_key.<locals>.K") c.t2)]) D 0 rfl (by kernel_rfl) (by kernel_rfl) rfl fun h3 D => ?_
  with_reducible refine wpAny_bind ?_
  with_reducible refine wpAny_of_eq (by assumption) ?_
  with_reducible refine wpAny_bind ?_
  with_reducible refine wpStopSlot ?_
  refine ssM (o' := kCls (kD1 a ns) #[some (.ref bt), none, some (.str (Str.ofString "K") t0), some (.str (Str.ofString "cmp_to_key.<locals>.K") c.t2), some (.builtin "object.__new__")]) D 0 rfl (by kernel_rfl) (by kernel_rfl) rfl fun h3 D => ?_
  with_reducible refine wpAny_bind ?_
  wp_delta
  with_reducible refine wpAny_bind ?_
  with_reducible refine wpStopSlotAt ?_
  refine saM (D.at 0 _ _ rfl) (r := some (.builtin "object.__new__")) (by kernel_rfl) ?_
  ((with_reducible refine wpAny_ite_false ?_ ?_); focus (with_unfolding_all rfl; done))
  with_reducible refine wpAny_bind ?_
  refine tlK (D.at 0 _ _ rfl) rfl (D.at 1 _ _ rfl) (kd_n2 c _) (r := some (.builtin "object.__new__")) (by kernel_rfl) ?_
  ((with_reducible refine wpAny_ite_false ?_ ?_); focus (with_unfolding_all rfl; done))
  with_reducible refine wpAny_pure ?_
  with_reducible refine wpAny_bind ?_
  with_reducible refine wpStopInst ?_
  skip
  refine wpGo (instK c D fun m h3 tk' k t t2 D => ?_)
  with_reducible refine wpAny_bind ?_
  with_reducible refine wpAny_of_eq (by assumption) ?_
  with_reducible refine wpAny_bind ?_
  with_reducible refine wpStopSlot ?_
  refine ssM (o' := kCls (kD2 a ns) #[some (.ref bt), none, some (.str (Str.ofString "K") t0), some (.str (Str.ofString "cmp_to_key.<locals>.K") c.t2), some (.builtin "object.__new__"), some (.bool false)]) D 1 rfl (by kernel_rfl) (by kernel_rfl) rfl fun h3 D => ?_
  ((with_reducible refine wpAny_ite_false ?_ ?_); focus (with_unfolding_all rfl; done))
  ((with_reducible refine wpAny_ite_false ?_ ?_); focus (with_unfolding_all rfl; done))
  with_reducible refine wpAny_bind ?_
  with_reducible refine wpStopNsGet ?_
  refine ngM (D.at 2 _ _ rfl) (kd_d3 c _ _ _ _) ?_
  ((with_reducible refine wpAny_ite_true ?_ ?_); focus (with_unfolding_all rfl; done))
  with_reducible refine wpAny_bind ?_
  with_reducible refine wpStopNsSet ?_
  refine nsM D 2 rfl (kd_r3 c _ _ _) (kd_x3 c _ _ _ _ _ _) rfl fun h3 D => ?_
  with_reducible refine wpAny_bind ?_
  with_reducible refine wpStopNsGet ?_
  refine ngM (D.at 2 _ _ rfl) (kd_e4 c _ _ _ _ _ _) ?_
  ((with_reducible refine wpAny_ite_true ?_ ?_); focus (with_unfolding_all rfl; done))
  with_reducible refine wpAny_bind ?_
  with_reducible refine wpStopNsGet ?_
  refine ngM (D.at 2 _ _ rfl) (kd_h4 c _ _ _ _ _ _) ?_
  ((with_reducible refine wpAny_ite_false ?_ ?_); focus (with_unfolding_all rfl; done))
  with_reducible refine wpAny_bind ?_
  with_reducible refine wpForQ ?_
  with_reducible refine wpForCons ?_
  with_reducible refine wpAny_bind ?_
  wp_delta
  ((with_reducible refine wpAny_ite_true ?_ ?_); focus (with_unfolding_all rfl; done))
  with_reducible refine wpAny_pure ?_
  with_reducible refine wpAny_pure ?_
  with_reducible refine wpForNil ?_
  with_reducible refine wpAny_bind ?_
  with_reducible refine wpTryS ?_
  have gr2 : ∀ b o, h.get? b = some o → h3.get? b = some o := fun b o e => memGrow D _ _ (gr _ _ e)
  have tys := es4_ty c (k := k) (k' := hashS w (Str.ofString "__doc__")) (t := t) (t' := tk') (m := m) (fun f hf => let ⟨o, e, r⟩ := hfn f hf; ⟨o, gr2 _ _ e, r⟩) (let ⟨o, e, r⟩ := hst; ⟨o, gr2 _ _ e, r⟩) (let ⟨o, e, r⟩ := hsl'; ⟨o, gr2 _ _ e, r⟩) ⟨_, D.at 0 _ _ rfl, rfl⟩
  have ens := D.at 2 _ _ rfl
  refine wpGo ?_
  with_reducible refine wpAny_holding ?_
  with_reducible refine wpAny_bind ?_
  wp_delta
  with_reducible refine wpAny_bind ?_
  with_reducible refine wpAny_loadPart' (by assumption) ?_
  with_reducible refine wpAny_pure ?_
  with_reducible refine wpAny_bind ?_
  with_reducible refine wpForArr ?_
  refine wpForStay (fun e he P hp => ?_) ?_
  · obtain ⟨⟨x, u, ek⟩, r⟩ := tys e he
    obtain ⟨eh, ek', ev⟩ := e
    dsimp only at ek
    subst ek
    with_reducible refine wpAny_bind ?_
    wp_delta
    with_reducible refine wpAny_pure ?_
    ((with_reducible refine wpAny_ite_false ?_ ?_); focus (with_unfolding_all rfl; done))
    with_reducible refine wpAny_pure ?_
    exact hp
  ((with_reducible refine wpAny_ite_false ?_ ?_); focus (with_unfolding_all rfl; done))
  with_reducible refine wpAny_bind ?_
  wp_delta
  with_reducible refine wpAny_bind ?_
  with_reducible refine wpAny_loadPart' (by assumption) ?_
  with_reducible refine wpAny_pure ?_
  with_reducible refine wpAny_bind ?_
  with_reducible refine wpForArr ?_
  refine wpForStay (fun e he P hp => ?_) ?_
  · obtain ⟨⟨x, u, ek⟩, el, T, ety, esn⟩ := tys e he
    have ety := ety ⟨h3, g, d, tk' + 1, os⟩ rfl
    skip
    refine wpAny_ite_false (by rw [el]; rfl) ?_
    with_reducible refine wpAny_bind ?_
    with_reducible refine wpAny_specialOf (by assumption) (by assumption) ?_
    with_reducible refine wpAny_pure ?_
    exact hp
  with_reducible refine wpAny_bind ?_
  with_reducible refine wpCallQ ?_
  have X3 : (K2 w.params).In h3 := fun a o e => gr2 _ _ (X a o e)
  refine wpCallV (wpE (superNew c X3 ens (D.at 1 _ _ rfl)) fun v s' hh => ?_)
  obtain ⟨p, h4, rfl, D4, rfl⟩ := hh
  have gr4 := memGrow D4
  with_reducible refine wpAny_bind ?_
  with_reducible refine wpAny_holding ?_
  with_reducible refine wpStopGetAt ?_
  refine wpGo (initGet (gr4 _ _ (X3 _ _ (by kernel_rfl))) (gr4 _ _ (D.at 1 _ _ rfl)) (D4.at 0 _ _ rfl) fun b h5 tk5 D5 => ?_)
  have gr5 := memGrow D5
  with_reducible refine wpAny_bind ?_
  with_reducible refine wpCallQ ?_
  refine wpCallV (wpE (initSub c (fun a o e => gr5 _ _ (gr4 _ _ (X3 a o e))) (gr5 _ _ (gr4 _ _ ens)) (gr5 _ _ (gr4 _ _ (D.at 1 _ _ rfl))) (D5.at 0 _ _ rfl)) fun v s' hh => ?_)
  obtain ⟨rfl, rfl⟩ := hh
  with_reducible refine wpAny_pure ?_
  wp_delta
  with_reducible refine wpAny_pure ?_
  have nf : ∀ z o, (z, o) ∈ [(m, mdO a t2), (a, kCls (kD2 a ns) #[some (.ref bt), none, some (.str (Str.ofString "K") t0), some (.str (Str.ofString "cmp_to_key.<locals>.K") c.t2), some (.builtin "object.__new__"), some (.bool false)]), (ns, dO (c.es4 k t (.ref m) (hashS w (Str.ofString "__doc__")) tk') (0 + 1 + 1 + 1))] → h.get? z = none := fun z o hz => by
    have e1 := (D.nw _ hz).2
    cases e2 : h.get? z with
    | none => rfl
    | some o' => rw [gr _ _ e2] at e1; cases e1
  exact q _ _ _ _ _ _ _ _ _ _ _ (fun b o e => gr5 _ _ (gr4 _ _ (gr2 b o e))) (nf a _ (.tail _ (.head _))) (nf ns _ (.tail _ (.tail _ (.head _)))) (nf m _ (.head _)) (gr5 _ _ (gr4 _ _ (D.at 1 _ _ rfl))) (gr5 _ _ (gr4 _ _ ens)) (gr5 _ _ (gr4 _ _ (D.at 0 _ _ rfl)))
open PySem PySem.W PySem.W.X PyProof.Rows PySem.Calls
set_option Elab.async false
set_option maxRecDepth 100000
set_option maxHeartbeats 4000000
theorem entryTN : entryFor table "type.__new__" = some Builtin.«type.__new__» := entryFor_of_tree (by kernel_rfl)
theorem slotTI : Slot "type" (Str.ofString "__init__") "type.__init__" :=
  .of (owner := "type") (n := "__init__") (by rw [typeLookup_type, builtinLookup_eq_fast]; kernel_rfl) (by decide +kernel) (by decide +kernel) (by decide +kernel)
    (by first | exact .inl (by decide +kernel) | exact .inr (by decide +kernel)) (by rw [isSubtype_type]; kernel_rfl)
theorem entryTI : entryFor table "type.__init__" = some Builtin.«type.__init__» := entryFor_of_tree (by kernel_rfl)
theorem typeCall {w : World} {A : Around} {E : Value → Shared → Prop} {Q : Value → Shared → Prop} {h : Heap} {g : Array GenState} {d : Drawn} {tk : Nat} {os : OsState} {bt nsA : Addr} {t0 u : Tok} {n m : Nat} (c : KD)
    (X : (K2 w.params).In h) (hfn : ∀ f ∈ [c.f1, c.f2, c.f3, c.f4, c.f5, c.f6], ∃ o, h.get? f = some o ∧ o.cls = .type "function") (hst : ∃ o, h.get? c.st = some o ∧ o.cls = .type "tuple")
    (hb : h.get? bt = some { cls := .type "tuple", data := .seq #[.type "object"] })
    (hn : h.get? nsA = some { cls := .type "dict", data := .dict c.es n })
    (hne : (nsA == sysModules) = false)
    (hsl : h.get? c.sl = some { cls := .type "list", data := .seq #[.str (Str.ofString "obj") u] m })
    (q : ∀ (a ns md : Addr) (h' : Heap) (tk' : Nat) (kx kx' : Int) (tx tx' ty : Tok) (nx : Nat), (∀ b o, h.get? b = some o → h'.get? b = some o) → h.get? a = none → h.get? ns = none → h.get? md = none →
      h'.get? a = some (kCls (kD2 a ns) #[some (.ref bt), none, some (.str (Str.ofString "K") t0), some (.str (Str.ofString "cmp_to_key.<locals>.K") c.t2), some (.builtin "object.__new__"), some (.bool false)]) →
      h'.get? ns = some (dO (c.es4 kx tx (.ref md) kx' tx') nx) → h'.get? md = some (mdO a ty) → Q (.ref a) { heap := h', gens := g, drawn := d, toks := tk', os := os }) :
    wpAny (model prg w) A (call (.type "type") [.str (Str.ofString "K") t0, .ref bt, .ref nsA] []) Q E ⟨h, g, d, tk, os⟩ := by
  refine wpAny_call (codeAny_of_tree ?_)
  show wpAny _ _ (callAny (.type "type") _) _ _ _
  refine wpAny_pure ⟨Code.quiet_builtin _ (by decide +kernel), codeAny_builtin F.entry_type_call ?_⟩
  rw [Around.under_plain (weight_type_call_type "type" _ []) (units_type_call_type "type" _ [])]
  have mb : Bind.madeBy (.type "type") = pure (some "type.__new__") := by kernel_rfl
  have ct : checkTypeCall "type" ⟨[.str (Str.ofString "K") t0, .ref bt, .ref nsA], []⟩ = pure () := by kernel_rfl
  have cn : checkBuiltinCall "type.__new__" ⟨[.type "type", .str (Str.ofString "K") t0, .ref bt, .ref nsA], []⟩ = pure () := by kernel_rfl
  have s3 : isSubtype (.type "type") (.type "type") = pure true := by kernel_rfl
  unfold Builtin.«type.__call__»
  ((with_reducible refine wpAny_ite_true ?_ ?_); focus (with_unfolding_all rfl; done))
  ((with_reducible refine wpAny_ite_false ?_ ?_); focus (with_unfolding_all rfl; done))
  ((with_reducible refine wpAny_ite_false ?_ ?_); focus (with_unfolding_all rfl; done))
  ((with_reducible refine wpAny_ite_false ?_ ?_); focus (with_unfolding_all rfl; done))
  with_reducible refine wpAny_bind ?_
  with_reducible refine wpAny_of_eq (by assumption) ?_
  with_reducible refine wpAny_bind ?_
  wp_delta
  with_reducible refine wpAny_pure ?_
  ((with_reducible refine wpAny_ite_false ?_ ?_); focus (with_unfolding_all rfl; done))
  with_reducible refine wpAny_bind ?_
  with_reducible refine wpAny_of_eq (by assumption) ?_
  with_reducible refine wpAny_bind ?_
  with_reducible refine wpAny_pure ?_
  with_reducible refine wpAny_bind ?_
  with_reducible refine wpAny_holding ?_
  with_reducible refine wpCallQ ?_
  refine wpCallV (wpAny_call (codeAny_call_builtin (by decide +kernel : plainId "type.__new__" = true) entryTN (wpAny_of_eq cn (typeNew c X hfn hst hb hn hne hsl fun a ns md h' tk' kx kx' tx tx' ty nx gr fa fns fm ea ens em => ?_))))
  have tI : (⟨h', g, d, tk', os⟩ : Shared).TypeIs (.ref a) "type" := ⟨_, ea, rfl⟩
  have lk : typeLookup (.type "type") (Str.ofString "__init__") = pure (some (.builtin "type.__init__")) := by kernel_rfl
  have tf : typeOf (.builtin "type.__init__") = pure (.type "wrapper_descriptor") := by kernel_rfl
  with_reducible refine wpAny_bind ?_
  with_reducible refine wpAny_isInstance (by assumption) (by assumption) ?_
  ((with_reducible refine wpAny_ite_false ?_ ?_); focus (with_unfolding_all rfl; done))
  with_reducible refine wpAny_bind ?_
  with_reducible refine wpAny_holding ?_
  wp_delta
  with_reducible refine wpAny_bind ?_
  with_reducible refine wpAny_specialOf (by assumption) (by assumption) ?_
  with_reducible refine wpAny_holding ?_
  with_reducible refine wpAny_bind ?_
  unfold bindSpecial
  with_reducible refine wpAny_bind ?_
  with_reducible refine wpAny_of_eq (by assumption) ?_
  ((with_reducible refine wpAny_ite_true ?_ ?_); focus (with_unfolding_all rfl; done))
  with_reducible refine wpAny_pure ?_
  with_reducible refine wpAny_bind ?_
  with_reducible refine wpCallQ ?_
  refine wpCallV (wpAny_call_entry slotTI tI entryTI ?_ (by unfold argsOk; kernel_rfl))
  unfold Builtin.«type.__init__»
  ((with_reducible refine wpAny_ite_false ?_ ?_); focus (with_unfolding_all rfl; done))
  ((with_reducible refine wpAny_ite_false ?_ ?_); focus (with_unfolding_all rfl; done))
  wp_delta
  wp_delta
  with_reducible refine wpAny_pure ?_
  refine ⟨_, rfl, ?_⟩
  with_reducible refine wpAny_pure ?_
  ((with_reducible refine wpAny_ite_false ?_ ?_); focus (with_unfolding_all rfl; done))
  wp_delta
  wp_delta
  with_reducible refine wpAny_pure ?_
  exact q a ns md h' tk' kx kx' tx tx' ty nx gr fa fns fm ea ens em
open PySem PySem.W PySem.W.X PyProof.Rows PySem.Calls
set_option Elab.async false
set_option maxRecDepth 100000
set_option maxHeartbeats 4000000
/-- while the class body runs: h1 the heap at its start, c the body's code record, P that record's table, ns the class's names, L what was made -/
structure CS (h1 : Heap) (c P : Addr) (ps : Array Value) (ns : Addr) (es : Array DictEntry) (n : Nat) (L : List (Addr × Obj)) (h : Heap) : Prop where
  keep : ∀ b o, b ≠ P → b ≠ ns → h1.get? b = some o → h.get? b = some o
  isc : h.IsCode c P ps
  tab : h.TableAt c P ps
  nso : h.get? ns = some (dO es n)
  ne : P ≠ ns
  cne : c ≠ ns
  new : ∀ p ∈ L, h.get? p.1 = some p.2 ∧ p.1 ≠ P ∧ p.1 ≠ ns ∧ h1.get? p.1 = none
section
variable {M : Model} {A : Around} {E : Value → Shared → Prop} {h0 h h1 : Heap} {g : Array GenState} {d : Drawn} {tk : Nat} {os : OsState} {c P ns : Addr} {ps : Array Value} {es es' : Array DictEntry} {n n' : Nat} {L : List (Addr × Obj)} {w : World}
theorem nsR {a : Addr} {x : Str} {v : Value} {o' : Obj} {cl : Value} {dd : Option Addr} {ep : Nat} {sl : Array (Option Value)} {Q : Unit → Shared → Prop} (ho : h.get? a = some ⟨cl, dd, .dict es ep, sl⟩)
    (hr : aRefKeyMayBeTheName x es = false) (hx : Obj.putName x (hashS w x) (.str x tk) v ⟨cl, dd, .dict es ep, sl⟩ = o') (hf : o'.isFreed = false) (q : ∀ h', Heap.ExtBut a h h' → h'.get? a = some o' → Q () ⟨h', g, d, tk + 1, os⟩) : wpAny (model prg w) A (nsSet a x v) Q E ⟨h, g, d, tk, os⟩ := by
  unfold nsSet strHash mkText
  refine wpAny_bind (wpAny_bind (wpAny_askSetting (wpAny_pure ?_)))
  with_reducible refine wpAny_bind ?_
  with_reducible refine wpAny_bind ?_
  with_reducible refine wpAny_fresh' ?_
  with_reducible refine wpAny_pure ?_
  with_reducible refine wpAny_bind ?_
  with_reducible refine wpAny_loadPart' (by assumption) ?_
  ((with_reducible refine wpAny_ite_false ?_ ?_); focus ((simp [*]; done); done))
  wp_delta
  refine wpAny_updatePart ho ?_
  refine q _ (Heap.SameBut.update ..).extBut ?_
  rw [Heap.get?_update_self _ ho (by exact hx ▸ hf)]
  exact congrArg some hx
theorem CS.put (C : CS h1 c P ps ns es n L h) {h' : Heap} (x : Heap.ExtBut ns h h') (e : h'.get? ns = some (dO es' n')) : CS h1 c P ps ns es' n' L h' :=
  ⟨fun b o hP hn q => x b o hn (C.keep b o hP hn q), C.isc.extBut x C.cne C.ne, C.tab.extBut x C.cne C.ne, e, C.ne, C.cne, fun p hp => let ⟨a, b, cc, r⟩ := C.new p hp; ⟨x _ _ cc a, b, cc, r⟩⟩
theorem CS.push (C : CS h1 c P ps ns es n L h) (o : Obj) (hf : o.isFreed = false) (hp : ∃ o, h1.get? P = some o) (hn : ∃ o, h1.get? ns = some o) : CS h1 c P ps ns es n ((h.objs.size, o) :: L) (h.push o) := by
  refine ⟨fun b o' hP hn q => Heap.get?_push_of_some _ (C.keep b o' hP hn q), C.isc.push o, C.tab.push o, Heap.get?_push_of_some _ C.nso, C.ne, C.cne, fun p hp => ?_⟩
  have nP : h.objs.size ≠ P := Nat.ne_of_gt C.isc.lt.2
  have nn : h.objs.size ≠ ns := Nat.ne_of_gt (Heap.lt_size C.nso)
  rcases List.mem_cons.mp hp with rfl | hp
  · refine ⟨Heap.get?_push_size _ hf, nP, nn, ?_⟩
    cases e : h1.get? h.objs.size with
    | none => rfl
    | some o' => exact absurd (Heap.lt_size (C.keep _ _ nP nn e)) (Nat.lt_irrefl _)
  · obtain ⟨a, r⟩ := C.new p hp
    exact ⟨Heap.get?_push_of_some _ a, r⟩
/-- a name of the class is stored -/
theorem cs_store {e : Env} {x : Str} {v : Value} {Q : Unit → Shared → Prop} (C : CS h1 c P ps ns es n L h) (hl : e.locals = ns) (hst : storeName e x v = localSet e x v)
    (hr : aRefKeyMayBeTheName x es = false) (hx : Obj.putName x (hashS w x) (.str x tk) v (dO es n) = dO es' n') (q : ∀ h', CS h1 c P ps ns es' n' L h' → Q () ⟨h', g, d, tk + 1, os⟩) :
    wpAny (model prg w) A (storeName e x v) Q E ⟨h, g, d, tk, os⟩ := by
  rw [hst]
  unfold localSet
  rw [hl]
  have eo := C.nso
  refine wpAny_bind (wpAny_load C.nso ?_)
  refine wpAny_ite_true (by kernel_rfl) ?_
  exact nsR C.nso hr hx rfl fun h' x e => q h' (C.put x e)
end
open PySem PySem.W PySem.W.X PyProof.Rows PySem.Calls
set_option Elab.async false
set_option maxRecDepth 100000
set_option maxHeartbeats 4000000
noncomputable abbrev fnO (name qual : Str) (params : Arguments) (body : List Stmt) (scope : Scope) (cl : List (Str × Addr)) (pm : Value) (c' : Addr) (ctv : Value) : Obj :=
  { cls := .type "function", data := .func { name, qualname := qual, params, body := .stmts body, scope, globals := mainGlobals, closure := cl, defaults := .none, kwdefaults := .none, doc := .none, pyModule := pm, annotations := none, code := .ref c', closureTuple := ctv, builtins := builtinsNs } }
section
variable {M : Model} {A : Around} {E : Value → Shared → Prop} {h0 h h1 : Heap} {g : Array GenState} {d : Drawn} {tk : Nat} {os : OsState} {c P ns : Addr} {ps : Array Value} {es es' : Array DictEntry} {n n' : Nat} {L : List (Addr × Obj)} {w : World} {mg : Str → Option Value}
theorem mkFnK {name qual : Str} {params : Arguments} {body : List Stmt} {scope : Scope} {e : Env} {cl : List (Str × Addr)} {pos : Pos} {fl : Nat} {Q : Value → Shared → Prop} (hcl : closureFor scope e = pure cl) (hge : e.globals = mainGlobals) (hg : h.Ns mainGlobals mg) (hcode : e.code = .ref c)
    (isc : h.IsCode c P ps) (tab : h.TableAt c P ps) (hnf : codeAmong pos ps.toList = none) (hgP : mainGlobals ≠ P) (hb : h.BuiltinsAt mg P) (hdoc : docOf body = none)
    (q : ∀ c' ctv h' tk', Heap.ExtBut P h h' → h.objs.size ≤ c' → c' < h'.objs.size → h'.IsCode c P (ps ++ #[rawInt pos.line, rawInt pos.col, .ref c']) → h'.TableAt c P (ps ++ #[rawInt pos.line, rawInt pos.col, .ref c']) → h'.CodeRec (.ref c') qual → (∃ oc, h'.get? c' = some oc ∧ oc.cls = .type "code") →
      Q (.ref h'.objs.size) ⟨h'.push (fnO name qual params body scope cl ((mg "__name__").getD .none) c' ctv), g, d, tk', os⟩) :
    wpAny M A (makeFunction name qual params (.stmts body) scope e [] [] [] pos fl) Q E ⟨h, g, d, tk, os⟩ := by
  have fin : ∀ ctv (h2 : Heap) tk2, (∀ b o, h.get? b = some o → h2.get? b = some o) → h.objs.size ≤ h2.objs.size → wpAny M A (do
      let code ← functionCode e pos fl name qual params scope (.stmts body)
      let bi ← builtinsFor e.globals e.builtins
      let pm ← nsGet e.globals "__name__"
      let doc ← match FuncBody.stmts body with
        | .stmts b => (match docOf b with | some s => mkText s | none => pure .none)
        | .expr _ => pure .none
      newObj (.type "function") (.func { name := name, qualname := qual, params := params, body := .stmts body, scope := scope, globals := e.globals, closure := cl, closureTuple := ctv, code := code, builtins := bi, defaults := .none, kwdefaults := .none, annotations := none, pyModule := pm.getD .none, doc := doc })) Q E ⟨h2, g, d, tk2, os⟩ := by
    intro ctv h2 tk2 k2 z2
    obtain ⟨bm, ob, hbm, hne0, _, hneP, hbo, hcls, hdict, hdata⟩ := hb.keeps k2
    refine wpAny_bind (wpAny_functionCodeX (s := ⟨h2, g, d, tk2, os⟩) hcode (isc.keeps k2) (tab.keeps k2) hnf fun c' h' tk' hx hge' hlt isc' hrec tab' own' => ?_)
    have hg' : h'.Ns mainGlobals mg := (hg.keeps k2).extBut hx hgP
    rw [hge]
    refine wpAny_bind (wpAny_builtinsFor (s := ⟨h', g, d, tk', os⟩) hg' hbm hne0 (hx _ _ hneP hbo) hcls hdict hdata ?_)
    refine wpAny_bind (wpAny_nsGet hg' ?_)
    simp only [hdoc]
    exact wpAny_bind (wpAny_pure (wpAny_newObj_type (q c' ctv h' tk' (fun b o hb' eq => hx b o hb' (k2 b o eq)) (Nat.le_trans z2 hge') hlt isc' tab' hrec (let ⟨_, _, _, ⟨⟨oc, _, e, ec, _⟩, _⟩⟩ := own'; ⟨oc, e, ec⟩)) (by size_fits)))
  rw [makeFunction_eq]
  simp only [List.zip_nil_right, List.filterMap_nil, List.isEmpty_nil, if_true, pure_bind]
  unfold makeTail
  rw [hcl]
  refine wpAny_bind (wpAny_pure ?_)
  cases cl with
  | nil =>
    simp only [List.isEmpty_nil, if_true]
    exact wpAny_bind (wpAny_pure (fin .none h tk (fun _ _ x => x) (Nat.le_refl _)))
  | cons z r =>
    simp only [List.isEmpty_cons, Bool.false_eq_true, if_false]
    exact wpAny_bind (wpAny_newTextTuple (fin _ _ _ (fun _ _ x => Heap.get?_push_of_some _ x) (by show h.objs.size ≤ (h.push _).objs.size; rw [Heap.size_push]; lia)))
/-- a def in the class body -/
theorem cs_def {es' : Addr → Tok → Array DictEntry} {name qual : Str} {params : Arguments} {body : List Stmt} {scope : Scope} {e : Env} {cl : List (Str × Addr)} {pos : Pos} {Q : Flow → Shared → Prop} (C : CS h1 c P ps ns es n L h) (hp : ∃ o, h1.get? P = some o) (hn : ∃ o, h1.get? ns = some o)
    (hcl : closureFor scope e = pure cl) (hge : e.globals = mainGlobals) (hg : h1.Ns mainGlobals mg) (hcode : e.code = .ref c) (hl : e.locals = ns) (hq : qualnameIn e name name = qual) (hst : ∀ v, storeName e name v = localSet e name v)
    (hd : params.defaults = []) (hkd : params.kw_defaults = []) (han : annTrees params none e = [])
    (hnf : codeAmong pos ps.toList = none) (hgP : mainGlobals ≠ P) (hgn : mainGlobals ≠ ns) (hb : h1.BuiltinsAt mg P) (hb' : h1.BuiltinsAt mg ns) (hdoc : docOf body = none)
    (hr : aRefKeyMayBeTheName name es = false) (hx : ∀ f t, Obj.putName name (hashS w name) (.str name t) (.ref f) (dO es n) = dO (es' f t) n')
    (q : ∀ f c' oc ctv t tk' h', (∃ vs u, oc.cls = .type "code" ∧ oc.data = .fields vs ∧ vs[1]? = some (.str qual u)) →
      CS h1 c P (ps ++ #[rawInt pos.line, rawInt pos.col, .ref c']) ns (es' f t) n' ((f, fnO name qual params body scope cl ((mg "__name__").getD .none) c' ctv) :: (c', oc) :: L) h' → Q .next ⟨h', g, d, tk', os⟩) :
    wpAny (model prg w) A (exec (.FunctionDef name params body [] none [] scope none name pos) e) Q E ⟨h, g, d, tk, os⟩ := by
  rw [exec_def, hq, defaultsOf_eq, hd, hkd, han]
  refine wpAny_bind (wpAny_standAt (wpAny_bind (wpAny_holding ?_)))
  refine wpAny_bind (wpAny_pure (wpAny_bind (wpAny_holding (wpAny_pure (wpAny_holding (wpAny_bind (wpAny_pure ?_)))))))
  have kk : ∀ b o, b ≠ P → b ≠ ns → h1.get? b = some o → h.get? b = some o := C.keep
  have hgh : h.Ns mainGlobals mg := let ⟨o, es, ep, x, r⟩ := hg; ⟨o, es, ep, kk _ _ hgP hgn x, r⟩
  have hbh : h.BuiltinsAt mg P := by
    obtain ⟨bm, ob, hbm, hne0, hnG, hneP, hbo, r⟩ := hb
    obtain ⟨bm', ob', hbm', _, _, hnen, _⟩ := hb'
    rw [hbm] at hbm'; cases hbm'
    exact ⟨bm, ob, hbm, hne0, hnG, hneP, kk _ _ hneP hnen hbo, r⟩
  refine mkFnK hcl hge hgh hcode C.isc C.tab hnf hgP hbh hdoc fun c' ctv h' tk' x hge' hlt isc' tab' hrec hcl' => ?_
  obtain ⟨c2, oc, vs, u, e2, hoc, hdc, hvs⟩ := hrec
  cases e2
  obtain ⟨oc2, hoc2, hcc⟩ := hcl'
  rw [hoc] at hoc2
  cases hoc2
  have nP : c' ≠ P := Nat.ne_of_gt (Nat.lt_of_lt_of_le C.isc.lt.2 hge')
  have nn : c' ≠ ns := Nat.ne_of_gt (Nat.lt_of_lt_of_le (Heap.lt_size C.nso) hge')
  have n1 : h1.get? c' = none := by
    cases e3 : h1.get? c' with
    | none => rfl
    | some o' => exact absurd (Heap.lt_size (C.keep _ _ nP nn e3)) (Nat.not_lt.mpr hge')
  have C2 : CS h1 c P (ps ++ #[rawInt pos.line, rawInt pos.col, .ref c']) ns es n ((c', oc) :: L) h' := by
    refine ⟨fun b o hP hn' e3 => x b o hP (C.keep b o hP hn' e3), isc', tab', x _ _ (Ne.symm C.ne) C.nso, C.ne, C.cne, fun p hp => ?_⟩
    rcases List.mem_cons.mp hp with rfl | hp
    · exact ⟨hoc, nP, nn, n1⟩
    · obtain ⟨a, b, r⟩ := C.new p hp
      exact ⟨x _ _ b a, b, r⟩
  have C3 := C2.push (fnO name qual params body scope cl ((mg "__name__").getD .none) c' ctv) rfl hp hn
  refine wpAny_bind (wpAny_standAt (wpAny_bind (wpAny_bindName ?_)))
  refine cs_store C3 hl (hst _) hr (hx _ _) fun h3 C4 => wpAny_pure (q _ _ _ _ _ _ _ ⟨vs, u, hcc, hdc, hvs⟩ C4)
end
open PySem PySem.W PySem.W.X PyProof.Rows PySem.Calls
set_option Elab.async false
set_option maxRecDepth 100000
set_option maxHeartbeats 2000000
noncomputable def clsBody : List Stmt := match bodyAt 7 with
  | .ClassDef _ _ _ b _ _ _ _ _ _ _ :: _ => b
  | _ => []
noncomputable def clsScope : Scope := match bodyAt 7 with
  | .ClassDef _ _ _ _ _ _ s _ _ _ _ :: _ => s
  | _ => default
noncomputable def clsPos : Pos := match bodyAt 7 with
  | .ClassDef _ _ _ _ _ _ _ _ _ _ p :: _ => p
  | _ => ⟨0, 0, 0, 0⟩
noncomputable abbrev clsQual : Str := Str.ofString "cmp_to_key.<locals>.K"
noncomputable abbrev cEnv (c ns fr cc : Addr) : Env := { scope := clsScope, locals := ns, globals := mainGlobals, qual := clsQual ++ ".", code := .ref c, frame := some fr, builtins := builtinsNs, cells := [("mycmp", cc)] }
noncomputable def eA (w : World) (l : List (String × Tok × Value)) : Array DictEntry := (l.map fun q => ent (hashS w (Str.ofString q.1)) q.1 q.2.1 q.2.2).toArray
/-- the k-th statement of the class body: a def's parts -/
noncomputable def dName (k : Nat) : Str := match clsBody[k]? with | some (.FunctionDef n _ _ _ _ _ _ _ _ _) => n | _ => default
noncomputable def dParams (k : Nat) : Arguments := match clsBody[k]? with | some (.FunctionDef _ a _ _ _ _ _ _ _ _) => a | _ => ⟨[], [], none, [], [], none, []⟩
noncomputable def dBody (k : Nat) : List Stmt := match clsBody[k]? with | some (.FunctionDef _ _ b _ _ _ _ _ _ _) => b | _ => []
noncomputable def dScope (k : Nat) : Scope := match clsBody[k]? with | some (.FunctionDef _ _ _ _ _ _ s _ _ _) => s | _ => default
noncomputable def dPos (k : Nat) : Pos := match clsBody[k]? with | some (.FunctionDef _ _ _ _ _ _ _ _ _ p) => p | _ => ⟨0, 0, 0, 0⟩
noncomputable def dQual (x : String) : Str := Str.ofString ("cmp_to_key.<locals>.K." ++ x)
/-- a code record of a def -/
noncomputable def CdOk (oc : Obj) (q : Str) : Prop := ∃ vs u, oc.cls = .type "code" ∧ oc.data = .fields vs ∧ vs[1]? = some (.str q u)
section
variable {M : Model} {A : Around} {E : Value → Shared → Prop} {h : Heap} {g : Array GenState} {d : Drawn} {tk : Nat} {os : OsState}
theorem ceStr {x : Str} {k : Nat} {pos : Pos} {e : Env} {Q : Value → Shared → Prop} (q : Q (.str x tk) ⟨h, g, d, tk + 1, os⟩) : wpAny M A (eval (.Constant (.str x) k pos) e) Q E ⟨h, g, d, tk, os⟩ := wpAny_Constant_str q
theorem ceList {vs : List Value} {Q : Value → Shared → Prop} (q : Q (.ref h.objs.size) ⟨h.push { cls := .type "list", data := .seq vs.toArray }, g, d, tk, os⟩) (hsz : vs.length ≤ sizeLine := by size_fits) : wpAny M A (newList vs) Q E ⟨h, g, d, tk, os⟩ :=
  wpAny_newObj_type q (by show vs.toArray.size ≤ sizeLine; rw [List.size_toArray]; exact hsz)
end
theorem clsWalk {w : World} {A : Around} {E : Value → Shared → Prop} {h h1 : Heap} {g : Array GenState} {d : Drawn} {tk : Nat} {os : OsState} {c P ns fr cc : Addr} {mg : Str → Option Value} {v0 : Value} {u1 u2 u3 t2 t3 : Tok} {fl : Int} {Q : Flow → Shared → Prop}
    (C : CS h1 c P #[] ns (eA w [("__module__", u1, v0), ("__qualname__", u2, .str clsQual t2), ("__firstlineno__", u3, .int fl t3)]) 3 [] h) (hp : ∃ o, h1.get? P = some o) (hn : ∃ o, h1.get? ns = some o)
    (hg : h1.Ns mainGlobals mg) (hgP : mainGlobals ≠ P) (hgn : mainGlobals ≠ ns) (hb : h1.BuiltinsAt mg P) (hb' : h1.BuiltinsAt mg ns)
    (q : ∀ ps h' tk' mv t1 u u4 u5 u6 u7 u8 u9 u10 u11 sl f1 c1 v1 f2 c2 v2 f3 c3 v3 f4 c4 v4 f5 c5 v5 f6 c6 v6 o1 o2 o3 o4 o5 o6, mv = Str.ofString "cpy313.functools" → CdOk o1 (dQual "__init__") → CdOk o2 (dQual "__lt__") →
      CS h1 c P ps ns (eA w [("__module__", u1, .str mv t1), ("__qualname__", u2, .str clsQual t2), ("__firstlineno__", u3, .int fl t3), ("__slots__", u4, .ref sl), ("__init__", u5, .ref f1), ("__lt__", u6, .ref f2), ("__gt__", u7, .ref f3), ("__eq__", u8, .ref f4), ("__le__", u9, .ref f5), ("__ge__", u10, .ref f6), ("__hash__", u11, .none)]) 11 [(f6, fnO (dName 7) (dQual "__ge__") (dParams 7) (dBody 7) (dScope 7) [(Str.ofString "mycmp", cc)] ((mg "__name__").getD .none) c6 v6), (c6, o6), (f5, fnO (dName 6) (dQual "__le__") (dParams 6) (dBody 6) (dScope 6) [(Str.ofString "mycmp", cc)] ((mg "__name__").getD .none) c5 v5), (c5, o5), (f4, fnO (dName 5) (dQual "__eq__") (dParams 5) (dBody 5) (dScope 5) [(Str.ofString "mycmp", cc)] ((mg "__name__").getD .none) c4 v4), (c4, o4), (f3, fnO (dName 4) (dQual "__gt__") (dParams 4) (dBody 4) (dScope 4) [(Str.ofString "mycmp", cc)] ((mg "__name__").getD .none) c3 v3), (c3, o3), (f2, fnO (dName 3) (dQual "__lt__") (dParams 3) (dBody 3) (dScope 3) [(Str.ofString "mycmp", cc)] ((mg "__name__").getD .none) c2 v2), (c2, o2), (f1, fnO (dName 2) (dQual "__init__") (dParams 2) (dBody 2) (dScope 2) [] ((mg "__name__").getD .none) c1 v1), (c1, o1), (sl, { cls := .type "list", data := .seq #[.str (Str.ofString "obj") u] })] h' → Q .next ⟨h', g, d, tk', os⟩) :
    wpAny (model prg w) A (execs clsBody (cEnv c ns fr cc)) Q E ⟨h, g, d, tk, os⟩ := by
  have step1 : clsBody = clsBody[0]! :: clsBody[1]! :: .FunctionDef (dName 2) (dParams 2) (dBody 2) [] none [] (dScope 2) none (dName 2) (dPos 2) :: .FunctionDef (dName 3) (dParams 3) (dBody 3) [] none [] (dScope 3) none (dName 3) (dPos 3) :: .FunctionDef (dName 4) (dParams 4) (dBody 4) [] none [] (dScope 4) none (dName 4) (dPos 4) :: .FunctionDef (dName 5) (dParams 5) (dBody 5) [] none [] (dScope 5) none (dName 5) (dPos 5) :: .FunctionDef (dName 6) (dParams 6) (dBody 6) [] none [] (dScope 6) none (dName 6) (dPos 6) :: .FunctionDef (dName 7) (dParams 7) (dBody 7) [] none [] (dScope 7) none (dName 7) (dPos 7) :: [clsBody[8]!] := by kernel_rfl
  rw [step1]
  refine seq ?_
  refine wpAny_Assign_Name (ceStr ?_) (by with_unfolding_all rfl)
  refine cs_store (es' := eA w [("__module__", u1, .str (Str.ofString "cpy313.functools") tk), ("__qualname__", u2, .str clsQual t2), ("__firstlineno__", u3, .int fl t3)]) (n' := 3) C rfl (by kernel_rfl) (by kernel_rfl) (by kernel_rfl) fun h C => Nx.next ?_
  refine seq ?_
  refine wpAny_Assign_Name (List_ ?_) (by with_unfolding_all rfl)
  refine args_cons (ceStr (args_nil ?_)) (by with_unfolding_all rfl)
  refine ceList ?_
  have C := C.push { cls := .type "list", data := .seq #[.str (Str.ofString "obj") (tk + 1 + 1)] } rfl hp hn
  generalize h.objs.size = sl at C ⊢
  refine cs_store (es' := eA w [("__module__", u1, .str (Str.ofString "cpy313.functools") tk), ("__qualname__", u2, .str clsQual t2), ("__firstlineno__", u3, .int fl t3), ("__slots__", tk + 1 + 1 + 1, .ref sl)]) (n' := 4) C rfl (by kernel_rfl) (by kernel_rfl) (by kernel_rfl) fun h C => Nx.next ?_
  generalize tk + 1 + 1 + 1 = u4 at C ⊢
  obtain ⟨mv, emv⟩ : ∃ mv, mv = Str.ofString "cpy313.functools" := ⟨_, rfl⟩
  rw [← emv] at C
  refine seq ?_
  refine cs_def (es' := fun f t => eA w [("__module__", u1, .str mv tk), ("__qualname__", u2, .str clsQual t2), ("__firstlineno__", u3, .int fl t3), ("__slots__", u4, .ref sl), ("__init__", t, .ref f)]) (n' := 5) (qual := dQual "__init__") (cl := []) C hp hn (by kernel_rfl) rfl hg rfl rfl (by kernel_rfl) (fun v => by kernel_rfl) (by kernel_rfl) (by kernel_rfl) (by kernel_rfl) (by kernel_rfl) hgP hgn hb hb' (by kernel_rfl) (by kernel_rfl) (fun f t => by kernel_rfl) ?_
  intro f1 c1 o1 v1 u5 tk1 h cd1 C
  refine Nx.next ?_
  refine seq ?_
  refine cs_def (es' := fun f t => eA w [("__module__", u1, .str mv tk), ("__qualname__", u2, .str clsQual t2), ("__firstlineno__", u3, .int fl t3), ("__slots__", u4, .ref sl), ("__init__", u5, .ref f1), ("__lt__", t, .ref f)]) (n' := 6) (qual := dQual "__lt__") (cl := [(Str.ofString "mycmp", cc)]) C hp hn (by kernel_rfl) rfl hg rfl rfl (by kernel_rfl) (fun v => by kernel_rfl) (by kernel_rfl) (by kernel_rfl) (by kernel_rfl) (by kernel_rfl) hgP hgn hb hb' (by kernel_rfl) (by kernel_rfl) (fun f t => by kernel_rfl) ?_
  intro f2 c2 o2 v2 u6 tk2 h cd2 C
  refine Nx.next ?_
  refine seq ?_
  refine cs_def (es' := fun f t => eA w [("__module__", u1, .str mv tk), ("__qualname__", u2, .str clsQual t2), ("__firstlineno__", u3, .int fl t3), ("__slots__", u4, .ref sl), ("__init__", u5, .ref f1), ("__lt__", u6, .ref f2), ("__gt__", t, .ref f)]) (n' := 7) (qual := dQual "__gt__") (cl := [(Str.ofString "mycmp", cc)]) C hp hn (by kernel_rfl) rfl hg rfl rfl (by kernel_rfl) (fun v => by kernel_rfl) (by kernel_rfl) (by kernel_rfl) (by kernel_rfl) (by kernel_rfl) hgP hgn hb hb' (by kernel_rfl) (by kernel_rfl) (fun f t => by kernel_rfl) ?_
  intro f3 c3 o3 v3 u7 tk3 h cd3 C
  refine Nx.next ?_
  refine seq ?_
  refine cs_def (es' := fun f t => eA w [("__module__", u1, .str mv tk), ("__qualname__", u2, .str clsQual t2), ("__firstlineno__", u3, .int fl t3), ("__slots__", u4, .ref sl), ("__init__", u5, .ref f1), ("__lt__", u6, .ref f2), ("__gt__", u7, .ref f3), ("__eq__", t, .ref f)]) (n' := 8) (qual := dQual "__eq__") (cl := [(Str.ofString "mycmp", cc)]) C hp hn (by kernel_rfl) rfl hg rfl rfl (by kernel_rfl) (fun v => by kernel_rfl) (by kernel_rfl) (by kernel_rfl) (by kernel_rfl) (by kernel_rfl) hgP hgn hb hb' (by kernel_rfl) (by kernel_rfl) (fun f t => by kernel_rfl) ?_
  intro f4 c4 o4 v4 u8 tk4 h cd4 C
  refine Nx.next ?_
  refine seq ?_
  refine cs_def (es' := fun f t => eA w [("__module__", u1, .str mv tk), ("__qualname__", u2, .str clsQual t2), ("__firstlineno__", u3, .int fl t3), ("__slots__", u4, .ref sl), ("__init__", u5, .ref f1), ("__lt__", u6, .ref f2), ("__gt__", u7, .ref f3), ("__eq__", u8, .ref f4), ("__le__", t, .ref f)]) (n' := 9) (qual := dQual "__le__") (cl := [(Str.ofString "mycmp", cc)]) C hp hn (by kernel_rfl) rfl hg rfl rfl (by kernel_rfl) (fun v => by kernel_rfl) (by kernel_rfl) (by kernel_rfl) (by kernel_rfl) (by kernel_rfl) hgP hgn hb hb' (by kernel_rfl) (by kernel_rfl) (fun f t => by kernel_rfl) ?_
  intro f5 c5 o5 v5 u9 tk5 h cd5 C
  refine Nx.next ?_
  refine seq ?_
  refine cs_def (es' := fun f t => eA w [("__module__", u1, .str mv tk), ("__qualname__", u2, .str clsQual t2), ("__firstlineno__", u3, .int fl t3), ("__slots__", u4, .ref sl), ("__init__", u5, .ref f1), ("__lt__", u6, .ref f2), ("__gt__", u7, .ref f3), ("__eq__", u8, .ref f4), ("__le__", u9, .ref f5), ("__ge__", t, .ref f)]) (n' := 10) (qual := dQual "__ge__") (cl := [(Str.ofString "mycmp", cc)]) C hp hn (by kernel_rfl) rfl hg rfl rfl (by kernel_rfl) (fun v => by kernel_rfl) (by kernel_rfl) (by kernel_rfl) (by kernel_rfl) (by kernel_rfl) hgP hgn hb hb' (by kernel_rfl) (by kernel_rfl) (fun f t => by kernel_rfl) ?_
  intro f6 c6 o6 v6 u10 tk6 h cd6 C
  refine Nx.next ?_
  refine seq ?_
  refine wpAny_Assign_Name (wpAny_Constant_none ?_) (by with_unfolding_all rfl)
  refine cs_store (es' := eA w [("__module__", u1, .str mv tk), ("__qualname__", u2, .str clsQual t2), ("__firstlineno__", u3, .int fl t3), ("__slots__", u4, .ref sl), ("__init__", u5, .ref f1), ("__lt__", u6, .ref f2), ("__gt__", u7, .ref f3), ("__eq__", u8, .ref f4), ("__le__", u9, .ref f5), ("__ge__", u10, .ref f6), ("__hash__", tk6, .none)]) (n' := 11) C rfl (by kernel_rfl) (by kernel_rfl) (by kernel_rfl) fun h C => Nx.next (seq0 ?_)
  exact q _ h (tk6 + 1) mv tk (tk + 1 + 1) u4 u5 u6 u7 u8 u9 u10 tk6 sl f1 c1 v1 f2 c2 v2 f3 c3 v3 f4 c4 v4 f5 c5 v5 f6 c6 v6 o1 o2 o3 o4 o5 o6 emv cd1 cd2 C
open PySem PySem.W PySem.W.X PyProof.Rows PySem.Calls
set_option Elab.async false
set_option maxRecDepth 100000
set_option maxHeartbeats 4000000
section
local macro_rules | `(tactic| x_close) => `(tactic| first | exact ⟨_, _, rfl, by assumption, rfl⟩ | (trace_state; fail))
theorem prepGet {pp : Program} {w : World} {A : Around} {h : Heap} {g : Array GenState} {d : Drawn} {tk : Nat} {os : OsState} {t : Tok} (X : (K2 w.params).In h) :
    wpAny (model pp w) A (call (.builtin "type.__getattribute__") [.type "type", .str (Str.ofString "__prepare__") t]) (fun v s' => ∃ (p : Nat) (h' : Heap), v = .ref p ∧ Mem h h' [] [(p, { cls := .type "builtin_function_or_method", data := .fields #[.builtin "type.__prepare__", .type "type"] })] ∧ s' = ⟨h', g, d, tk, os⟩) (fun _ _ => False) ⟨h, g, d, tk, os⟩ := by
  x_run
theorem prepCall {pp : Program} {w : World} {A : Around} {h : Heap} {g : Array GenState} {d : Drawn} {tk : Nat} {os : OsState} {t : Tok} {b bt : Addr} (X : (K2 w.params).In h)
    (hb : h.get? b = some { cls := .type "builtin_function_or_method", data := .fields #[.builtin "type.__prepare__", .type "type"] }) (hbt : h.get? bt = some { cls := .type "tuple", data := .seq #[.type "object"] }) :
    wpAny (model pp w) A (call (.ref b) [.str (Str.ofString "K") t, .ref bt] []) (fun v s' => ∃ (p : Nat) (h' : Heap), v = .ref p ∧ Mem h h' [] [(p, { cls := .type "dict", data := .dict #[] })] ∧ s' = ⟨h', g, d, tk, os⟩) (fun _ _ => False) ⟨h, g, d, tk, os⟩ := by
  x_run
end
section
variable {M : Model} {A : Around} {E : Value → Shared → Prop} {h0 h h1 : Heap} {g : Array GenState} {d : Drawn} {tk : Nat} {os : OsState} {c P : Addr} {ps : Array Value} {w : World} {mg : Str → Option Value}
theorem classCodeK {env : Env} {pos : Pos} {fl : Nat} {name qual : Str} {scope : Scope} {Q : Value → Shared → Prop} (hc : env.code = .ref c) (hok : h.IsCode c P ps) (htab : h.TableAt c P ps) (hnf : codeAmong pos ps.toList = none)
    (q : ∀ c' h' tk', Heap.ExtBut P h h' → h.objs.size ≤ c' → c' < h'.objs.size → h'.get? P = some (tableObj (ps ++ #[rawInt pos.line, rawInt pos.col, .ref c'])) → (∃ P', h.objs.size ≤ P' ∧ h'.IsCode c' P' #[] ∧ h'.TableAt c' P' #[]) → Q (.ref c') ⟨h', g, d, tk', os⟩) :
    wpAny M A (classCode env pos fl name qual scope) Q E ⟨h, g, d, tk, os⟩ := by
  obtain ⟨o, vs, file, tf, flags, tg, inF, text, tt, op, ho, hd, h11, h2, h7, h9, h10, hop, hpd, htr, hne⟩ := id hok
  have hopT : op = tableObj ps := Option.some.inj (hop.symm.trans htab.2)
  subst hopT
  unfold classCode codeAt
  rw [hc, if_neg (show ¬ ((Value.ref c == Value.none) = true) from Bool.false_ne_true)]
  refine wpAny_bind (wpAny_fieldsOf ho hd ?_)
  rw [h11]
  refine wpAny_bind (wpAny_fieldsOf hop hpd ?_)
  rw [hnf, h2, h7, h9, h10]
  refine wpAny_bind (wpAny_newCodeX fun c' P' h' tk' hk hc' hP' hcode' htab' _ => ?_)
  have hop' := hk _ _ hop
  refine wpAny_bind (wpAny_updateFieldsOfTheText hop' hpd ?_)
  have e1 : Obj.mapFields (fun vs => if (codeAmong pos vs.toList).isSome = true then vs else vs ++ #[rawInt pos.line, rawInt pos.col, .ref c']) (tableObj ps) = tableObj (ps ++ #[rawInt pos.line, rawInt pos.col, .ref c']) := by
    simp only [Obj.mapFields, tableObj, hnf]
    rfl
  have e2 := Heap.get?_update_self (h := h') (fun o => Obj.mapFields (fun vs => if (codeAmong pos vs.toList).isSome = true then vs else vs ++ #[rawInt pos.line, rawInt pos.col, .ref c']) o) hop' (by rw [e1]; rfl)
  rw [e1] at e2
  have x : Heap.ExtBut P h' _ := (Heap.SameBut.update (h := h') (a := P) (f := fun o => Obj.mapFields (fun vs => if (codeAmong pos vs.toList).isSome = true then vs else vs ++ #[rawInt pos.line, rawInt pos.col, .ref c']) o)).extBut
  refine wpAny_bind (wpAny_fieldsOf e2 rfl ?_)
  have l : (ps ++ #[rawInt pos.line, rawInt pos.col, Value.ref c']).toList = ps.toList ++ [rawInt pos.line, rawInt pos.col, .ref c'] := by simp
  rw [l, codeAmong_snoc _ htr hnf]
  have nc : c' ≠ P := Nat.ne_of_gt (Nat.lt_of_lt_of_le (Heap.lt_size hop) hc')
  have nP : P' ≠ P := Nat.ne_of_gt (Nat.lt_of_lt_of_le (Heap.lt_size hop) hP')
  exact wpAny_pure (q c' _ _ (fun b o' hb e => x b o' hb (hk b o' e)) hc' (by rw [Heap.size_after_update]; exact hcode'.lt.1) e2 ⟨P', hP', hcode'.extBut x nc nP, htab'.extBut x nc nP⟩)
end
open PySem PySem.W PySem.W.X PyProof.Rows PySem.Calls
set_option Elab.async false
set_option maxRecDepth 100000
set_option maxHeartbeats 4000000
noncomputable def kdOf (w : World) (mv : Str) (t1 t2 t3 : Tok) (fl : Int) (sl f1 f2 f3 f4 f5 f6 st : Addr) (u1 u2 u3 u4 u5 u6 u7 u8 u9 u10 u11 u12 : Tok) : KD :=
  { mv := mv, t1 := t1, t2 := t2, t3 := t3, fl := fl, sl := sl, f1 := f1, f2 := f2, f3 := f3, f4 := f4, f5 := f5, f6 := f6, st := st, k1 := hashS w "__module__", u1 := u1, k2 := hashS w "__qualname__", u2 := u2, k3 := hashS w "__firstlineno__", u3 := u3, k4 := hashS w "__slots__", u4 := u4, k5 := hashS w "__init__", u5 := u5, k6 := hashS w "__lt__", u6 := u6, k7 := hashS w "__gt__", u7 := u7, k8 := hashS w "__eq__", u8 := u8, k9 := hashS w "__le__", u9 := u9, k10 := hashS w "__ge__", u10 := u10, k11 := hashS w "__hash__", u11 := u11, k12 := hashS w "__static_attributes__", u12 := u12 }
theorem kdOf_es {w : World} {mv : Str} {t1 t2 t3 : Tok} {fl : Int} {sl f1 f2 f3 f4 f5 f6 st : Addr} {u1 u2 u3 u4 u5 u6 u7 u8 u9 u10 u11 u12 : Tok} :
    eA w [("__module__", u1, .str mv t1), ("__qualname__", u2, .str clsQual t2), ("__firstlineno__", u3, .int fl t3), ("__slots__", u4, .ref sl), ("__init__", u5, .ref f1), ("__lt__", u6, .ref f2), ("__gt__", u7, .ref f3), ("__eq__", u8, .ref f4), ("__le__", u9, .ref f5), ("__ge__", u10, .ref f6), ("__hash__", u11, .none), ("__static_attributes__", u12, .ref st)] = (kdOf w mv t1 t2 t3 fl sl f1 f2 f3 f4 f5 f6 st u1 u2 u3 u4 u5 u6 u7 u8 u9 u10 u11 u12).es := by kernel_rfl
theorem ldName {M : Model} {A : Around} {E : Value → Shared → Prop} {h : Heap} {g : Array GenState} {d : Drawn} {tk : Nat} {os : OsState} {c ns fr cc : Addr} {mg : Str → Option Value} {nm : Value} {Q : Value → Shared → Prop} (hns : h.get? ns = some (dO #[] 0)) (hg : h.Ns mainGlobals mg) (hnm : mg "__name__" = some nm) (q : Q nm ⟨h, g, d, tk, os⟩) :
    wpAny M A (loadName (cEnv c ns fr cc) (Str.ofString "__name__")) Q E ⟨h, g, d, tk, os⟩ := by
  have k : (cEnv c ns fr cc).kindOf (Str.ofString "__name__") = none := by kernel_rfl
  have kc : compilersOwnNames.contains (Str.ofString "__name__") = true := by kernel_rfl
  unfold loadName
  have b : (cEnv c ns fr cc).blockKind = .class := by kernel_rfl
  have sk : (cEnv c ns fr cc).scope.kind.isAnnotationScope = false := by kernel_rfl
  rw [k, b]
  simp only [sk, kc, Bool.false_and, Bool.false_eq_true, if_false, Bool.not_true]
  unfold localGet
  refine wpAny_bind (wpAny_bind (wpAny_load hns ?_))
  refine wpAny_ite_true (by kernel_rfl) ?_
  unfold nsGet
  refine wpAny_bind (wpAny_loadPart hns ?_)
  refine wpAny_of_eq (show nsLook _ _ = pure none by kernel_rfl) ?_
  exact loadGlobal_global hg hnm q
theorem in_some {K : Frag} {h : Heap} (X : K.In h) {a : Addr} (e : (K.lookup a).isSome = true) : ∃ o, h.get? a = some o := let ⟨o, eo⟩ := Option.isSome_iff_exists.mp e; ⟨o, X _ _ eo⟩
noncomputable def gNew (h h' : Heap) (x : Addr) : Option Obj := if (h.get? x).isNone then h'.get? x else none
theorem gNew_of {h h' : Heap} {x : Addr} {o : Obj} (e : h.get? x = none) (e' : h'.get? x = some o) : gNew h h' x = some o := by unfold gNew; rw [e]; exact e'
/-- the objects of the class K, as far as they are asked -/
inductive KAt (G : Addr → Option Obj) (pm : Value) (cc a : Addr) : Prop
  | mk (ns md bt : Addr) (c : KD) (t0 : Tok) (kx kx' : Int) (tx tx' ty : Tok) (nx : Nat) (c1 c2 : Addr) (v1 v2 : Value) (o1 o2 : Obj) (x1 : G a = some (kCls (kD2 a ns) #[some (.ref bt), none, some (.str (Str.ofString "K") t0), some (.str (Str.ofString "cmp_to_key.<locals>.K") c.t2), some (.builtin "object.__new__"), some (.bool false)])) (x2 : G ns = some (dO (c.es4 kx tx (.ref md) kx' tx') nx)) (x3 : G md = some (mdO a ty)) (x4 : G c.f1 = some (fnO (dName 2) (dQual "__init__") (dParams 2) (dBody 2) (dScope 2) [] pm c1 v1)) (x5 : G c.f2 = some (fnO (dName 3) (dQual "__lt__") (dParams 3) (dBody 3) (dScope 3) [(Str.ofString "mycmp", cc)] pm c2 v2)) (x6 : G c1 = some o1) (x7 : CdOk o1 (dQual "__init__")) (x8 : G c2 = some o2) (x9 : CdOk o2 (dQual "__lt__"))
theorem buildK {w : World} {A : Around} {E : Value → Shared → Prop} {Q : Value → Shared → Prop} {h : Heap} {g : Array GenState} {d : Drawn} {tk : Nat} {os : OsState} {mg : Str → Option Value} {cc : Addr} {env : Env} {nm : Value} {fl : Nat}
    (X : (K2 w.params).In h) (hg : h.Ns mainGlobals mg) (hnm : mg "__name__" = some nm) (h72 : h.get? 72 = some (tableObj #[])) (lim : h.NoLimit) (hroom : A.depth < recursionLimit)
    (bm : ∀ z, (∃ o, h.get? z = some o ∧ o.cls ≠ .type "module") ∨ h.get? z = none → h.BuiltinsAt mg z)
    (hgl : env.globals = mainGlobals) (hbl : env.builtins = builtinsNs) (hcode : env.code = .ref 76) (hcl : closureFor clsScope env = pure [(Str.ofString "mycmp", cc)])
    (q : ∀ (a : Addr) (h' : Heap) (tk' : Nat) (k' : Array Value), (∀ b o, b ≠ 72 → h.get? b = some o → h'.get? b = some o) → h'.get? 72 = some (tableObj k') → KAt (gNew h h') nm cc a → Q (.ref a) ⟨h', g, d, tk', os⟩) :
    wpAny (model prg w) A (buildClass (Str.ofString "K") clsQual [.type "object"] [] clsBody clsScope [Str.ofString "obj"] fl env clsPos none) Q E ⟨h, g, d, tk, os⟩ := by
  have s3 : isSubtype (.type "type") (.type "type") = pure true := by kernel_rfl
  have s4 : isType (.type "object") = pure true := by kernel_rfl
  have ty1 : typeOf (.type "object") = pure (.type "type") := by kernel_rfl
  have ty2 : typeOf (.type "type") = pure (.type "type") := by kernel_rfl
  have it2 : isType (.type "type") = pure true := by kernel_rfl
  have lk : typeLookup (.type "type") (Str.ofString "__getattribute__") = pure (some (.builtin "type.__getattribute__")) := by kernel_rfl
  have tf : typeOf (.builtin "type.__getattribute__") = pure (.type "wrapper_descriptor") := by kernel_rfl
  have lg : typeLookup (.type "dict") (Str.ofString "__getitem__") = pure (some (.builtin "dict.__getitem__")) := by kernel_rfl
  unfold buildClass newTuple newObj newObjAsIs
  with_reducible refine wpAny_bind ?_
  ((with_reducible refine wpAny_ite_false ?_ ?_); focus (with_unfolding_all rfl; done))
  with_reducible refine wpAny_bind ?_
  with_reducible refine wpStopAlloc ?_
  refine alM (Mem.start h) rfl fun bt h1 D => ?_
  with_reducible refine wpAny_pure ?_
  with_reducible refine wpAny_bind ?_
  with_reducible refine wpForQ ?_
  with_reducible refine wpForCons ?_
  with_reducible refine wpAny_bind ?_
  with_reducible refine wpAny_of_eq (by assumption) ?_
  ((with_reducible refine wpAny_ite_true ?_ ?_); focus (with_unfolding_all rfl; done))
  ((with_reducible refine wpAny_ite_false ?_ ?_); focus (with_unfolding_all rfl; done))
  with_reducible refine wpAny_pure ?_
  with_reducible refine wpForNil ?_
  wp_delta
  with_reducible refine wpAny_bind ?_
  with_reducible refine wpAny_of_eq (by assumption) ?_
  with_reducible refine wpAny_bind ?_
  with_reducible refine wpAny_of_eq (by assumption) ?_
  ((with_reducible refine wpAny_ite_true ?_ ?_); focus (with_unfolding_all rfl; done))
  with_reducible refine wpAny_bind ?_
  with_reducible refine wpForQ ?_
  change wpAny _ _ (forQ [Value.type "object"] _ _) _ _ _
  with_reducible refine wpForCons ?_
  with_reducible refine wpAny_bind ?_
  with_reducible refine wpAny_of_eq (by assumption) ?_
  with_reducible refine wpAny_bind ?_
  with_reducible refine wpAny_of_eq (by assumption) ?_
  ((with_reducible refine wpAny_ite_true ?_ ?_); focus (with_unfolding_all rfl; done))
  with_reducible refine wpAny_pure ?_
  with_reducible refine wpForNil ?_
  with_reducible refine wpAny_bind ?_
  wp_delta
  with_reducible refine wpAny_bind ?_
  with_reducible refine wpAny_fresh' ?_
  with_reducible refine wpAny_pure ?_
  ((with_reducible refine wpAny_ite_false ?_ ?_); focus (with_unfolding_all rfl; done))
  with_reducible refine wpAny_bind ?_
  with_reducible refine wpAny_pure ?_
  with_reducible refine wpAny_holding ?_
  with_reducible refine wpAny_bind ?_
  wp_delta
  with_reducible refine wpAny_bind ?_
  wp_delta
  with_reducible refine wpAny_bind ?_
  with_reducible refine wpAny_fresh' ?_
  with_reducible refine wpAny_pure ?_
  wp_delta
  with_reducible refine wpAny_bind ?_
  with_reducible refine wpAny_attempt ?_
  wp_delta
  with_reducible refine wpAny_holding ?_
  with_reducible refine wpAny_bind ?_
  with_reducible refine wpAny_of_eq (by assumption) ?_
  with_reducible refine wpAny_bind ?_
  with_reducible refine wpAny_of_eq (by assumption) ?_
  ((with_reducible refine wpAny_ite_false ?_ ?_); focus (with_unfolding_all rfl; done))
  wp_delta
  with_reducible refine wpAny_bind ?_
  wp_delta
  ((with_reducible refine wpAny_ite_false ?_ ?_); focus (with_unfolding_all rfl; done))
  with_reducible refine wpAny_pure ?_
  with_reducible refine wpAny_bind ?_
  with_reducible refine wpAny_attempt ?_
  with_reducible refine wpAny_holding ?_
  wp_delta
  ((with_reducible refine wpAny_ite_false ?_ ?_); focus (with_unfolding_all rfl; done))
  wp_delta
  with_reducible refine wpAny_bind ?_
  unfold bindSpecial
  with_reducible refine wpAny_bind ?_
  with_reducible refine wpAny_of_eq (by assumption) ?_
  ((with_reducible refine wpAny_ite_true ?_ ?_); focus (with_unfolding_all rfl; done))
  with_reducible refine wpAny_pure ?_
  with_reducible refine wpCallQ ?_
  have gr := memGrow D
  refine wpCallV (wpE (prepGet fun a o e => gr _ _ (X a o e)) fun v s' hh => ?_)
  obtain ⟨pb, h2, rfl, D2, rfl⟩ := hh
  have gr2 := memGrow D2
  wp_delta
  wp_delta
  with_reducible refine wpAny_pure ?_
  with_reducible refine wpAny_pure ?_
  with_reducible refine wpAny_bind ?_
  with_reducible refine wpCallQ ?_
  refine wpCallV (wpE (prepCall (fun a o e => gr2 _ _ (gr _ _ (X a o e))) (D2.at 0 _ _ rfl) (gr2 _ _ (D.at 0 _ _ rfl))) fun v s' hh => ?_)
  obtain ⟨ns, h3, rfl, D3, rfl⟩ := hh
  have gr3 := memGrow D3
  have hk3 : ∀ b o, h.get? b = some o → h3.get? b = some o := fun b o e => gr3 _ _ (gr2 _ _ (gr _ _ e))
  have nss : (ns == sysModules) = false := beq_eq_false_iff_ne.mpr fun e => by
    have z := (D3.nw _ (.head _)).2
    rw [e] at z
    obtain ⟨o, eo⟩ := in_some X (a := sysModules) (by kernel_rfl)
    rw [gr2 _ _ (gr _ _ eo)] at z
    cases z
  have nse := D3.at 0 _ _ rfl
  with_reducible refine wpAny_bind ?_
  wp_delta
  ((with_reducible refine wpAny_ite_false ?_ ?_); focus ((simp [*]; done); done))
  with_reducible refine wpAny_pure ?_
  with_reducible refine wpAny_bind ?_
  wp_delta
  with_reducible refine wpAny_bind ?_
  wp_delta
  with_reducible refine wpAny_bind ?_
  with_reducible refine wpAny_loadPart' (by assumption) ?_
  with_reducible refine wpAny_pure ?_
  with_reducible refine wpAny_of_eq (by assumption) ?_
  ((with_reducible refine wpAny_ite_false ?_ ?_); focus (with_unfolding_all rfl; done))
  with_reducible refine wpAny_holding ?_
  ((with_reducible refine wpAny_ite_false ?_ ?_); focus (with_unfolding_all rfl; done))
  with_reducible refine wpAny_bind ?_
  with_reducible refine wpAny_pure ?_
  ((with_reducible refine wpAny_ite_false ?_ ?_); focus (with_unfolding_all rfl; done))
  with_reducible refine wpAny_bind ?_
  with_reducible refine wpAny_pure ?_
  with_reducible refine wpAny_bind ?_
  with_reducible refine wpStopCC ?_
  rw [hgl, hbl]
  have C76 : CodeHd h3 76 72 := codeHd_of_K (fun a o e => hk3 _ _ (X a o e) : (K2 w.params).In h3) (by kernel_rfl)
  refine wpGo (classCodeK hcode (C76.code (hk3 _ _ h72) trivial) (C76.tab (hk3 _ _ h72)) rfl fun c' h4 tk4 x4 hge hlt t72 hP => ?_)
  obtain ⟨P, hPge, isc, tab⟩ := hP
  have hk4 : ∀ b o, b ≠ 72 → h.get? b = some o → h4.get? b = some o := fun b o n e => x4 _ _ n (hk3 _ _ e)
  have hg4 : h4.Ns mainGlobals mg := let ⟨o, es, ep, x, r⟩ := hg; ⟨o, es, ep, hk4 _ _ (by decide) x, r⟩
  obtain ⟨bmz, bmo, hbm, hbm0, _, hbm72, hbo, hbc, hbd, hbp⟩ := bm 72 (.inl ⟨_, h72, by decide⟩)
  with_reducible refine wpAny_bind ?_
  with_reducible refine wpStopBF ?_
  refine wpGo (wpAny_builtinsFor (s := ⟨h4, g, d, tk4, os⟩) hg4 hbm hbm0 (hk4 _ _ hbm72 hbo) hbc hbd hbp ?_)
  with_reducible refine wpAny_bind ?_
  wp_delta
  with_reducible refine wpAny_bind ?_
  with_reducible refine wpStopNsGet ?_
  refine wpGo (wpAny_nsGet (s := ⟨h4, g, d, tk4, os⟩) hg4 ?_)
  with_reducible refine wpStopAlloc ?_
  refine wpGo (wpAny_alloc ?_)
  with_reducible refine wpAny_bind ?_
  with_reducible refine wpAny_of_eq (by assumption) ?_
  with_reducible refine wpAny_holding ?_
  with_reducible refine wpAny_bind ?_
  with_reducible refine wpStopEF ?_
  generalize hh5 : Heap.push h4 _ = h5
  have hk5 : ∀ b o, h4.get? b = some o → h5.get? b = some o := fun b o e => hh5 ▸ Heap.get?_push_of_some _ e
  have hg5 : h5.Ns mainGlobals mg := hg4.keeps hk5
  have lim5 : h5.NoLimit := let ⟨mc, x, r⟩ := lim; ⟨mc, (let ⟨o, es, ep, y, r⟩ := x; ⟨o, es, ep, hk5 _ _ (hk4 _ _ (by decide) y), r⟩), r⟩
  have nse4 := x4 _ _ (fun e => by rw [e] at nse; rw [hk3 _ _ h72] at nse; cases nse) nse
  have ltns : ns < h3.objs.size := Heap.lt_size nse
  have hnP : P ≠ ns := Nat.ne_of_gt (Nat.lt_of_lt_of_le ltns hPge)
  have hnc : c' ≠ ns := Nat.ne_of_gt (Nat.lt_of_lt_of_le ltns hge)
  have C : CS h5 c' P #[] ns #[] 0 [] h5 := ⟨fun _ _ _ _ e => e, isc.keeps hk5, tab.keeps hk5, hk5 _ _ nse4, hnP, hnc, fun _ hp => (nomatch hp)⟩
  have hP5 : ∃ o, h5.get? P = some o := ⟨_, hk5 _ _ tab.2⟩
  have hN5 : ∃ o, h5.get? ns = some o := ⟨_, hk5 _ _ nse4⟩
  have nh : ∀ z, h3.objs.size ≤ z → h.get? z = none := fun z hz => by
    cases e : h.get? z with
    | none => rfl
    | some o => exact absurd (Heap.lt_size (hk3 _ _ e)) (Nat.not_lt.mpr hz)
  have nsn : h.get? ns = none := by
    cases e : h.get? ns with
    | none => rfl
    | some o =>
      have z := (D3.nw _ (.head _)).2
      rw [gr2 _ _ (gr _ _ e)] at z
      cases z
  have bmk : ∀ z, h.get? z = none → h5.BuiltinsAt mg z := fun z hz => by
    obtain ⟨b1, b2, b3, b4, b5, b6, b7, b8⟩ := bm z (.inr hz)
    have : b1 ≠ 72 := fun e => by rw [e, h72] at b7; cases b7; exact absurd b8.1 (by decide)
    exact ⟨b1, b2, b3, b4, b5, b6, hk5 _ _ (hk4 _ _ this b7), b8⟩
  have hgP : mainGlobals ≠ P := fun e => by
    obtain ⟨o, es, ep, x, r⟩ := hg
    have := nh P hPge
    rw [← e, x] at this; cases this
  have hgn : mainGlobals ≠ ns := fun e => by
    obtain ⟨o, es, ep, x, r⟩ := hg
    rw [← e, x] at nsn; cases nsn
  refine wpGo (wpAny_enterFrame (s := ⟨h5, g, d, tk4, os⟩) lim5 hroom ?_)
  with_reducible refine wpAny_bind ?_
  with_reducible refine wpOnR ?_
  refine wpGo ?_
  with_reducible refine wpAny_bind ?_
  with_reducible refine wpStopLN ?_
  refine wpGo (ldName C.nso hg5 hnm ?_)
  with_reducible refine wpAny_bind ?_
  with_reducible refine wpStopSN ?_
  refine wpGo (cs_store (es' := eA w [("__module__", tk4, nm)]) (n' := 1) C rfl (by kernel_rfl) (by kernel_rfl) (by kernel_rfl) fun h6 C => ?_)
  with_reducible refine wpAny_bind ?_
  wp_delta
  with_reducible refine wpAny_bind ?_
  with_reducible refine wpAny_fresh' ?_
  with_reducible refine wpAny_pure ?_
  with_reducible refine wpAny_bind ?_
  with_reducible refine wpStopSN ?_
  refine wpGo (cs_store (es' := eA w [("__module__", tk4, nm), ("__qualname__", tk4 + 1 + 1, .str clsQual (tk4 + 1))]) (n' := 2) C rfl (by kernel_rfl) (by kernel_rfl) (by kernel_rfl) fun h6 C => ?_)
  with_reducible refine wpAny_bind ?_
  with_reducible refine wpAny_mkInt' ?_
  with_reducible refine wpAny_bind ?_
  with_reducible refine wpStopSN ?_
  refine wpGo (cs_store (es' := eA w [("__module__", tk4, nm), ("__qualname__", tk4 + 1 + 1, .str clsQual (tk4 + 1)), ("__firstlineno__", tk4 + 1 + 1 + 1 + 1, .int fl (tk4 + 1 + 1 + 1))]) (n' := 3) C rfl (by kernel_rfl) (by kernel_rfl) (by kernel_rfl) fun h6 C => ?_)
  with_reducible refine wpAny_pure ?_
  with_reducible refine wpAny_bind ?_
  refine wpAny_run (h := none) (codeAny_body (by kernel_rfl) (by kernel_rfl) (clsWalk C hP5 hN5 hg5 hgP hgn (bmk P (nh P hPge)) (bmk ns nsn) ?_)) (by intro x; cases x)
  intro ps h7 tk7 mv t1 u u4 u5 u6 u7 u8 u9 u10 u11 sl f1 c1 v1 f2 c2 v2 f3 c3 v3 f4 c4 v4 f5 c5 v5 f6 c6 v6 o1 o2 o3 o4 o5 o6 emv cd1 cd2 C
  with_reducible refine wpAny_bind ?_
  with_reducible refine wpOnR ?_
  refine wpGo ?_
  rw [show List.mapM mkText [Str.ofString "obj"] = (do let a ← mkText (Str.ofString "obj"); pure [a]) from rfl]
  with_reducible refine wpAny_bind ?_
  with_reducible refine wpAny_bind ?_
  wp_delta
  with_reducible refine wpAny_bind ?_
  with_reducible refine wpAny_fresh' ?_
  with_reducible refine wpAny_pure ?_
  with_reducible refine wpAny_pure ?_
  with_reducible refine wpAny_bind ?_
  wp_delta
  wp_delta
  with_reducible refine wpAny_bind ?_
  with_reducible refine wpStopAlloc ?_
  have C := C.push { cls := .type "tuple", data := .seq #[.str (Str.ofString "obj") tk7] } rfl hP5 hN5
  refine wpGo (wpAny_alloc ?_)
  with_reducible refine wpAny_pure ?_
  with_reducible refine wpAny_bind ?_
  with_reducible refine wpStopSN ?_
  refine wpGo (cs_store (es' := eA w [("__module__", tk4, .str mv t1), ("__qualname__", tk4 + 1 + 1, .str clsQual (tk4 + 1)), ("__firstlineno__", tk4 + 1 + 1 + 1 + 1, .int fl (tk4 + 1 + 1 + 1)), ("__slots__", u4, .ref sl), ("__init__", u5, .ref f1), ("__lt__", u6, .ref f2), ("__gt__", u7, .ref f3), ("__eq__", u8, .ref f4), ("__le__", u9, .ref f5), ("__ge__", u10, .ref f6), ("__hash__", u11, .none), ("__static_attributes__", tk7 + 1, .ref h7.objs.size)]) (n' := 12) C rfl (by kernel_rfl) (by kernel_rfl) (by kernel_rfl) fun h8 C => ?_)
  with_reducible refine wpAny_pure ?_
  ((with_reducible refine wpAny_ite_false ?_ ?_); focus (with_unfolding_all rfl; done))
  with_reducible refine wpAny_bind ?_
  with_reducible refine wpCallQ ?_
  have hk8 : ∀ b o, b ≠ 72 → h.get? b = some o → h8.get? b = some o := fun b o n e => C.keep _ _ (fun z => by rw [z, nh P hPge] at e; cases e) (fun z => by rw [z, nsn] at e; cases e) (hk5 _ _ (hk4 _ _ n e))
  have X8 : (K2 w.params).In h8 := fun a o e => hk8 a o (fun z => (lookup_tabs e).2 (z ▸ by decide)) (X a o e)
  have nm8 : ∀ x, h3.objs.size ≤ x → x ≠ P → x ≠ ns → h.get? x = none := fun x hx _ _ => nh x hx
  have hsz : ∀ x, h5.get? x = none → h.get? x = none := fun x hx => by
    cases e : h.get? x with
    | none => rfl
    | some o =>
      by_cases z : x = 72
      · subst z
        rw [hk5 _ _ t72] at hx; cases hx
      · rw [hk5 _ _ (hk4 _ _ z e)] at hx; cases hx
  have bt8 : h8.get? bt = some { cls := .type "tuple", data := .seq #[.type "object"] } := by
    have b3 := gr3 _ _ (gr2 _ _ (D.at 0 _ _ rfl))
    have b4 := x4 bt _ (fun z => by rw [z, hk3 _ _ h72] at b3; cases b3) b3
    refine C.keep _ _ (fun z => ?_) (fun z => ?_) (hk5 _ _ b4)
    · have := Heap.lt_size b3
      rw [z] at this
      exact absurd this (Nat.not_lt.mpr hPge)
    · rw [z, nse] at b3; exact absurd (congrArg Obj.cls (Option.some.inj b3)) (by decide)
  have t72' : h8.get? 72 = some (tableObj (#[] ++ #[rawInt clsPos.line, rawInt clsPos.col, .ref c'])) :=
    C.keep _ _ (fun z => by have := nh P hPge; rw [← z, h72] at this; cases this) (fun z => by rw [← z, h72] at nsn; cases nsn) (hk5 _ _ t72)
  have N := C.new
  have nso := C.nso
  rw [kdOf_es] at nso
  refine wpCallV (typeCall _ X8 ?_ ⟨_, (N _ (.head _)).1, rfl⟩ bt8 nso nss (N _ (.tail _ (.tail _ (.tail _ (.tail _ (.tail _ (.tail _ (.tail _ (.tail _ (.tail _ (.tail _ (.tail _ (.tail _ (.tail _ (.head _))))))))))))))).1 fun a ns2 md h9 tk9 kx kx' tx tx' ty nx gr9 fa fns fm ea ens em => ?_)
  · intro f hf
    simp only [kdOf, List.mem_cons, List.not_mem_nil, or_false] at hf
    rcases hf with rfl | rfl | rfl | rfl | rfl | rfl
    · exact ⟨_, (N _ (.tail _ (.tail _ (.tail _ (.tail _ (.tail _ (.tail _ (.tail _ (.tail _ (.tail _ (.tail _ (.tail _ (.head _))))))))))))).1, rfl⟩
    · exact ⟨_, (N _ (.tail _ (.tail _ (.tail _ (.tail _ (.tail _ (.tail _ (.tail _ (.tail _ (.tail _ (.head _))))))))))).1, rfl⟩
    · exact ⟨_, (N _ (.tail _ (.tail _ (.tail _ (.tail _ (.tail _ (.tail _ (.tail _ (.head _))))))))).1, rfl⟩
    · exact ⟨_, (N _ (.tail _ (.tail _ (.tail _ (.tail _ (.tail _ (.head _))))))).1, rfl⟩
    · exact ⟨_, (N _ (.tail _ (.tail _ (.tail _ (.head _))))).1, rfl⟩
    · exact ⟨_, (N _ (.tail _ (.head _))).1, rfl⟩
  with_reducible refine wpAny_pure ?_
  have n9 : ∀ x, h8.get? x = none → h.get? x = none := fun x hx => by
    cases e : h.get? x with
    | none => rfl
    | some o =>
      by_cases z : x = 72
      · subst z
        rw [t72'] at hx; cases hx
      · rw [hk8 _ _ z e] at hx; cases hx
  have G1 : ∀ x o, (h8.get? x = some o ∧ x ≠ P ∧ x ≠ ns ∧ h5.get? x = none) → gNew h h9 x = some o := fun x o hx => gNew_of (hsz x hx.2.2.2) (gr9 _ _ hx.1)
  rw [hnm] at N
  exact q a h9 tk9 _ (fun b o n e => gr9 _ _ (hk8 b o n e)) (gr9 _ _ t72') ⟨ns2, md, bt, _, _, kx, kx', tx, tx', ty, nx, c1, c2, v1, v2, o1, o2, gNew_of (n9 a fa) ea, gNew_of (n9 ns2 fns) ens, gNew_of (n9 md fm) em,
    G1 f1 _ (N _ (.tail _ (.tail _ (.tail _ (.tail _ (.tail _ (.tail _ (.tail _ (.tail _ (.tail _ (.tail _ (.tail _ (.head _))))))))))))), G1 f2 _ (N _ (.tail _ (.tail _ (.tail _ (.tail _ (.tail _ (.tail _ (.tail _ (.tail _ (.tail _ (.head _))))))))))), G1 c1 _ (N _ (.tail _ (.tail _ (.tail _ (.tail _ (.tail _ (.tail _ (.tail _ (.tail _ (.tail _ (.tail _ (.tail _ (.tail _ (.head _)))))))))))))), cd1, G1 c2 _ (N _ (.tail _ (.tail _ (.tail _ (.tail _ (.tail _ (.tail _ (.tail _ (.tail _ (.tail _ (.tail _ (.head _)))))))))))), cd2⟩
open PySem PySem.W PySem.W.X PyProof.Rows PySem.Calls
set_option Elab.async false
set_option maxRecDepth 100000
set_option maxHeartbeats 4000000
theorem exec_cls (name : Str) (bases : List Expr) (body : List Stmt) (scope : Scope) (bind : Str) (statics : List Str) (pos : Pos) (env : Env) :
    exec (.ClassDef name bases [] body [] [] scope none bind statics pos) env = (do
      let decos ← evalAll (evalEach [] env)
      standAt pos
      buildClassGuard env
      let c ← holding decos do
        let a ← evalArgs (.builtin "__build_class__") false (backTo pos (starEach bases env)) (backToKw pos (keywordEach [] env))
        standAt pos
        holding (a.pos ++ a.kw.map (·.2)) (buildClass name (qualnameIn env name bind) a.pos a.kw body scope statics (firstLineOf [] pos) env pos none)
      let c ← decorate (decos.zip (([] : List Expr).map (·.pos))).reverse c
      standAt pos
      bindName env bind c
      pure .next) := rfl
section
variable {B : Bs} {P0 P : PM} {s0 s : Shared} {L : Addr} {m : Str → Option Value} {own : List Own}
/-- behind a call that has changed table 72 -/
theorem St.backK (h : St B P0 s0 P L m own s) {k' : Array Value} {s' : Shared} {φ : PM → Value → Prop} {v : Value} (o : Out (B.k k') P s φ v s') : ∃ P', P.le P' ∧ φ P' v ∧ St (B.k k') P0 s0 P' L m own s' := by
  obtain ⟨P', wd, l, nw, kp, hv⟩ := o
  obtain ⟨oL, es, ep, eL, r⟩ := h.ns
  have old : ∀ a o, s.heap.get? a = some o → P a = none → P' a = none := fun a o e n => by
    cases q : P' a with
    | none => rfl
    | some o' =>
      rcases nw a o' q with z | z
      · rw [n] at z; cases z
      · rw [e] at z; cases z
  refine ⟨P', l, hv, ⟨wd, h.le.trans l, fun a o e => ?_, fun a o e ht => kp a o (h.kp a o e ht) ht, ⟨oL, es, ep, kp _ _ eL h.lf.2.2, r⟩, ⟨old _ _ eL h.lf.1, h.lf.2⟩, fun q hq => ?_, h.nd⟩⟩
  · rcases nw a o e with z | z
    · exact h.nw a o z
    · right
      cases q : s0.heap.get? a with
      | none => rfl
      | some o' =>
        have ht : a ∉ tabs := fun ht => by rw [wd.nt a ht] at e; cases e
        rw [h.kp a o' q ht] at z; cases z
  · obtain ⟨⟨o, e, z⟩, r1, r2, r3, r4⟩ := h.own q hq
    exact ⟨⟨o, kp _ _ e r4, z⟩, r1, old _ _ e r2, r3, r4⟩
/-- the heap has grown, table 72 has changed -/
theorem St.k72 (h : St B P0 s0 P L m own s) {k' : Array Value} {h' : Heap} {tk : Nat} (k : ∀ b o, b ≠ 72 → s.heap.get? b = some o → h'.get? b = some o) (t : h'.get? 72 = some (tableObj k')) : St (B.k k') P0 s0 P L m own { s with heap := h', toks := tk } := by
  have h72 : (72 : Addr) ∈ tabs := by decide
  have np : ∀ b o, P b = some o → b ≠ 72 := fun b o e z => by rw [z, h.wd.nt 72 h72] at e; cases e
  refine ⟨⟨fun b o e => k b o (np b o e) (h.wd.fz b o e), h.wd.bs, h.wd.nt, fun t ht => ?_, h.wd.os, h.wd.gb, t⟩, h.le, h.nw, fun a o e ht => k a o (fun z => ht (z ▸ h72)) (h.kp a o e ht), ?_, h.lf, fun p hp => ?_, h.nd⟩
  · obtain ⟨ps, e, tr, hc⟩ := h.wd.tb t ht
    exact ⟨ps, k t _ (fun z => by rw [z] at ht; simp at ht) e, tr, hc⟩
  · obtain ⟨o, es, ep, e, r⟩ := h.ns
    exact ⟨o, es, ep, k _ _ (fun z => h.lf.2.2 (z ▸ h72)) e, r⟩
  · obtain ⟨⟨o, e, q⟩, r⟩ := h.own p hp
    exact ⟨⟨o, k _ _ (fun z => r.2.2.2 (z ▸ h72)) e, q⟩, r⟩
theorem St.freezeNew {B' : Bs} {s' : Shared} {m' : Str → Option Value} (h0 : St B P0 s0 P L m own s) (h : St B' P0 s0 P L m' own s') : ∃ P1, P.le P1 ∧ (∀ x o, gNew s.heap s'.heap x = some o → P1 x = some o) ∧ St B' P0 s0 P1 L m' own s' := by
  have gn : ∀ x o, gNew s.heap s'.heap x = some o → s.heap.get? x = none ∧ s'.heap.get? x = some o := fun x o e => by
    unfold gNew at e
    split at e
    · rename_i z
      exact ⟨by simpa using z, e⟩
    · cases e
  have gO : ∀ x o, s.heap.get? x = some o → gNew s.heap s'.heap x = none := fun x o e => by unfold gNew; rw [e]; rfl
  have key : ∀ x, (P x = none ∧ (gNew s.heap s'.heap x) = (match P x with | some o => some o | none => gNew s.heap s'.heap x)) ∨ ∃ o, P x = some o := fun x => by
    cases e : P x with
    | none => exact .inl ⟨rfl, rfl⟩
    | some o => exact .inr ⟨o, rfl⟩
  have pN : ∀ x, P x = none → gNew s.heap s'.heap x = none → (match P x with | some o => some o | none => gNew s.heap s'.heap x) = none := fun x e1 e2 => by rw [e1]; exact e2
  obtain ⟨oL, _, _, eL, _⟩ := h0.ns
  have cs : ∀ x o, (match P x with | some o => some o | none => gNew s.heap s'.heap x) = some o → P x = some o ∨ gNew s.heap s'.heap x = some o := fun x o e => by
    cases e1 : P x with
    | none => rw [e1] at e; exact .inr e
    | some o' => rw [e1] at e; exact .inl e
  refine ⟨fun x => match P x with | some o => some o | none => gNew s.heap s'.heap x, fun x o e => by dsimp only; rw [e], fun x o e => ?_, ⟨h.wd.more (fun x o e => by rw [e]) (fun x o e => ?_) (fun a ha => ?_), h.le.trans (fun x o e => by rw [e]), fun x o e => ?_, h.kp, h.ns, ⟨pN _ h.lf.1 (gO _ _ eL), h.lf.2⟩, fun q hq => ?_, h.nd⟩⟩
  · have : P x = none := by
      cases e1 : P x with
      | none => rfl
      | some o' => have := h0.wd.fz x o' e1; rw [(gn x o e).1] at this; cases this
    dsimp only
    rw [this]; exact e
  · rcases cs x o e with z | z
    · exact h.wd.fz x o z
    · exact (gn x o z).2
  · obtain ⟨o, eo⟩ := h0.wd.tabAt ha
    exact pN _ (h0.wd.nt a ha) (gO _ _ eo)
  · rcases cs x o e with z | z
    · exact h.nw x o z
    · right
      cases q : s0.heap.get? x with
      | none => rfl
      | some o' =>
        have z1 := (gn x o z).1
        by_cases ht : x ∈ tabs
        · obtain ⟨o2, e2⟩ := h0.wd.tabAt ht
          rw [z1] at e2; cases e2
        · rw [h0.kp x o' q ht] at z1; cases z1
  · obtain ⟨r1, r2, r3, r4⟩ := h.own q hq
    obtain ⟨⟨o, e, _⟩, _⟩ := h0.own q hq
    exact ⟨r1, r2, pN _ r3 (gO _ _ e), r4⟩
end
theorem KAt.mono {G G' : Addr → Option Obj} {pm : Value} {cc a : Addr} (h : KAt G pm cc a) (l : ∀ x o, G x = some o → G' x = some o) : KAt G' pm cc a := by
  obtain ⟨ns, md, bt, c, t0, kx, kx', tx, tx', ty, nx, c1, c2, v1, v2, o1, o2, e1, e2, e3, e4, e5, e6, d1, e7, d2⟩ := h
  exact ⟨ns, md, bt, c, t0, kx, kx', tx, tx', ty, nx, c1, c2, v1, v2, o1, o2, l _ _ e1, l _ _ e2, l _ _ e3, l _ _ e4, l _ _ e5, l _ _ e6, d1, l _ _ e7, d2⟩
theorem mgn_object {B : Bs} (ok : Ok B) : B.mg "object" = none := mg_none_of ok.X ok.g (by kernel_rfl)
theorem mg_name {B : Bs} (ok : Ok B) : ∃ v, B.mg (Str.ofString "__name__") = some v := by
  have e : ((nsIn (hz.heap_157 B.w.params) mainGlobals (Str.ofString "__name__")).join).isSome = true := by kernel_rfl
  obtain ⟨v, ev⟩ := Option.isSome_iff_exists.mp e
  refine ⟨v, mg_of ok.X ok.g ?_⟩
  cases h : nsIn (hz.heap_157 B.w.params) mainGlobals (Str.ofString "__name__") with
  | none => rw [h] at ev; cases ev
  | some x => rw [h] at ev; exact congrArg some ev
theorem mbBC {B : Bs} (ok : Ok B) : B.mb (Str.ofString "__build_class__") = some (.builtin "__build_class__") := (ok.blt _ (by decide)).trans (by kernel_rfl)
theorem specCmp {B : Bs} {P : PM} {s : Shared} (ok : Ok B) (k0 : B.k72 = #[]) (wd : Wd B P s) {mc : Value} :
    wpAny (mdl B) (AA 462 1970) (call (.ref 77) [mc]) (fun v s' => ∃ k', Out (B.k k') P s (fun P' v => ∃ a cc pm, v = .ref a ∧ KAt P' pm cc a ∧ ∃ o, P' cc = some o ∧ isCel (some mc) o) v s') (fun _ _ => False) s := by
  refine enterCQ ok wd 77 7 76 ["mycmp"] ["K"] [none] (fun x => if x = Str.ofString "mycmp" then some mc else none) (fun n => [("mycmp", n + 1)]) (fun p => by kernel_rfl) (fun p => by kernel_rfl) (fun p => by kernel_rfl) (fun p => by kernel_rfl) (fun p => by kernel_rfl) (fun p => ⟨⟨by kernel_rfl, by kernel_rfl⟩, by kernel_rfl, by kernel_rfl, by kernel_rfl, by kernel_rfl, by kernel_rfl⟩) (fun p n => by kernel_rfl) (fun p n => by kernel_rfl) (fun n => by kernel_rfl) (by kernel_rfl) (by kernel_rfl) (by decide) ?_ ?_ ?_ ?_
  · intro p n x hx
    rw [List.mem_singleton.mp hx]
    exact .inr ⟨by kernel_rfl, by kernel_rfl⟩
  · intro L x
    have kc : (callEnvC (fdAt B.w.params 77) L 77).kindOf (Str.ofString "mycmp") = some .cell := by kernel_rfl
    simp [bindL, kc, asg]
  · intro L
    have kc : (callEnvC (fdAt B.w.params 77) L 77).kindOf (Str.ofString "mycmp") = some .cell := by kernel_rfl
    simp [bindC, kc]
  intro L s1 h fe ce
  have step : bodyAt 7 = [.ClassDef (Str.ofString "K") [.Name (Str.ofString "object") ⟨50, 12, 50, 18⟩] [] clsBody [] [] clsScope none (Str.ofString "K") [Str.ofString "obj"] clsPos, .Return (some (.Name (Str.ofString "K") ⟨72, 11, 72, 12⟩)) ⟨72, 4, 72, 12⟩] := by kernel_rfl
  rw [step]
  refine seq ?_
  rw [exec_cls]
  obtain ⟨hp, g, d, tk, os⟩ := s1
  with_reducible refine wpAny_bind ?_
  wp_delta
  with_reducible refine wpAny_pure ?_
  with_reducible refine wpAny_bind ?_
  with_reducible refine wpAny_standAt ?_
  with_reducible refine wpAny_bind ?_
  wp_delta
  with_reducible refine wpAny_bind ?_
  with_reducible refine wpStopNsGet ?_
  refine wpGo (wpAny_nsGet (m := B.mb) (fe.blt ▸ h.wd.nsb ok.b (by decide)) ?_)
  rw [mbBC ok]
  wp_delta
  with_reducible refine wpAny_pure ?_
  with_reducible refine wpAny_bind ?_
  with_reducible refine wpAny_holding ?_
  with_reducible refine wpAny_bind ?_
  with_reducible refine wpStopEA ?_
  refine wpGo (evalArgsF (args_cons ?_))
  refine ldb ok h fe (mgn_object ok) (v := .type "object") (by kernel_rfl) (by kernel_rfl) ?_
  refine args_nil ?_
  with_reducible refine wpAny_bind ?_
  with_reducible refine wpAny_standAt ?_
  with_reducible refine wpAny_holding ?_
  with_reducible refine wpStopBC ?_
  have h72 := h.wd.t72
  rw [k0] at h72
  have X2 := K2_in ok h.wd
  obtain ⟨nm, hnm⟩ := mg_name ok
  refine wpGo (buildK (cc := L + 1) X2 (h.wd.nsb ok.g (by decide)) hnm h72 (h.wd.lim ok) (by decide) ?_ (by kernel_rfl) (by kernel_rfl) (by kernel_rfl) (by kernel_rfl) fun a h' tk' k' kp t72 kat => ?_)
  · intro z hz
    obtain ⟨bm, ob, b1, b2, b3, b4, b5, b6, b7⟩ := ok.bm
    have e := h.wd.base b4 b3
    obtain ⟨og, es, ep, eg, cg, rg⟩ := h.wd.nsb ok.g (by decide)
    refine ⟨bm, ob, b1, b2, fun q => ?_, fun q => ?_, e, b5, b6, b7⟩
    · rw [q, eg] at e
      have z := Option.some.inj e
      rw [z] at cg
      rw [cg] at b7; cases b7
    · rcases hz with ⟨o, e1, e2⟩ | e1
      · rw [← q, e] at e1; cases e1; exact e2 b5
      · rw [← q, e] at e1; cases e1
  have h1 := h.k72 (tk := tk') kp t72
  obtain ⟨P1, l1, f1, h2⟩ := h.freezeNew h1
  have kat := kat.mono f1
  have fe' : FE (envC B 77 L) L ["K"] := fe
  with_reducible refine wpAny_bind ?_
  wp_delta
  with_reducible refine wpAny_pure ?_
  with_reducible refine wpAny_bind ?_
  with_reducible refine wpAny_standAt ?_
  with_reducible refine wpAny_bind ?_
  with_reducible refine wpStopBN ?_
  refine wpGo (wpAny_bindName (stv h2 fe' (by walk_at "up") fun s2 h => ?_))
  with_reducible refine wpAny_pure ?_
  refine Nx.next ?_
  refine seq (wpAny_Return_some (ldv h fe' (by walk_at "lk") (Nx.ret ?_)))
  obtain ⟨P2, o, l2, e2, c2, h⟩ := St.freeze h
  exact ⟨k', h.out ⟨a, L + 1, nm, rfl, kat.mono l2, o, e2, c2⟩⟩
open PySem PySem.W PySem.W.X PyProof.Rows PySem.Calls
set_option Elab.async false
set_option maxRecDepth 100000
set_option maxHeartbeats 4000000
section
local macro_rules | `(tactic| x_close) => `(tactic| first | exact ⟨_, _, _, _, _, _, rfl, by assumption, rfl⟩ | (trace_state; fail))
theorem keyMake {pp : Program} {w : World} {h : Heap} {g : Array GenState} {d : Drawn} {tk : Nat} {os : OsState} {K ns md bt c1 : Addr} {c : KD} {t0 : Tok} {kx kx' : Int} {tx tx' ty uu : Tok} {nx : Nat} {v1 pm a0 x cl : Value} {dd : Option Addr} {rest : List Value} {sl : Array (Option Value)} {p1 p2 p3 p4 p5 p6 : Pos} (X : (K2 w.params).In h)
    (hK : h.get? K = some (kCls (kD2 K ns) #[some (.ref bt), none, some (.str (Str.ofString "K") t0), some (.str (Str.ofString "cmp_to_key.<locals>.K") c.t2), some (.builtin "object.__new__"), some (.bool false)]))
    (hns : h.get? ns = some (dO (c.es4 kx tx (.ref md) kx' tx') nx)) (hmd : h.get? md = some (mdO K ty))
    (hf : h.get? c.f1 = some (fnO "__init__" (dQual "__init__") ⟨[], [⟨"self", none, p5⟩, ⟨"obj", none, p6⟩], none, [], [], none, []⟩ [.Assign [.Attribute (.Name "self" p1) "obj" p2] (.Name "obj" p3) p4] { kind := .function, names := [("self", .local), ("obj", .local)], isGenerator := false, isCoroutine := false } [] pm c1 v1))
    (hc : h.get? c1 = some ⟨.type "code", dd, .fields ⟨a0 :: .str (dQual "__init__") uu :: rest⟩, sl⟩) :
    wpAny (model pp w) (AA 461 1965) (call (.ref K) [x]) (fun v s' => ∃ (p q L : Nat) (h' : Heap) (oL : Obj) (tk' : Nat), v = .ref p ∧ Mem h h' [] [(L, oL), (p, { cls := .ref K, dict := some q, data := .plain, slots := #[some x] }), (q, { cls := .type "dict", data := .dict #[] })] ∧ s' = ⟨h', g, d, tk', os⟩) (fun _ _ => False) ⟨h, g, d, tk, os⟩ := by
  unfold kCls kD2 at hK
  unfold dO at hns
  unfold mdO at hmd
  unfold fnO at hf
  obtain ⟨mv, t1, t2, t3, fl, sl4, f1, f2, f3, f4, f5, f6, st, k1, u1, k2, u2, k3, u3, k4, u4, k5, u5, k6, u6, k7, u7, k8, u8, k9, u9, k10, u10, k11, u11, k12, u12⟩ := c
  dsimp only at hK hf
  x_run
end
open PySem PySem.W PySem.W.X PyProof.Rows PySem.Calls
set_option Elab.async false
set_option maxRecDepth 100000
set_option maxHeartbeats 4000000

theorem kd_lt4 (c : KD) (n : Nat) (ka kb : Int) (ta tb : Tok) (va : Value) : nsLook (Str.ofString "__lt__") (dO (c.es4 ka ta va kb tb) n) = pure (some (.ref c.f2)) := by kernel_rfl
theorem oneLtK {w : World} {E : Value → Shared → Prop} {Q : Bool → Shared → Prop} {h : Heap} {g : Array GenState} {d : Drawn} {tk : Nat} {os : OsState} {K ns md p q c2 : Addr} {c : KD} {kx kx' : Int} {tx tx' : Tok} {nx : Nat} {x u pm v2 : Value} {sl : Array (Option Value)} {cl : List (Str × Addr)} 
    (hp : h.get? p = some { cls := .ref K, dict := some q, data := .plain, slots := #[some x] }) (hK : h.get? K = some (kCls (kD2 K ns) sl)) (hns : h.get? ns = some (dO (c.es4 kx tx (.ref md) kx' tx') nx))
    (hf : h.get? c.f2 = some (fnO (dName 3) (dQual "__lt__") (dParams 3) (dBody 3) (dScope 3) cl pm c2 v2))
    (hc : wpAny (model prg w) (AA 461 1965) (call (.ref c.f2) [.ref p, u]) (fun r s' => ∃ b, r = .bool b ∧ Q b s') E ⟨h, g, d, tk, os⟩) :
    wpAny (model prg w) (AA 461 1965) (keyLt' oneType' (.ref p) u) Q E ⟨h, g, d, tk, os⟩ := by
  rw [keyLt'_oneType, oneLt'_eq]
  rw [if_pos rfl]
  refine wpAny_bind (wpAny_cRoomFor (by decide) ?_)
  unfold callSpecialIfBound? bindSpecialIfBound? specialOf
  with_reducible refine wpAny_bind ?_
  with_reducible refine wpAny_holding ?_
  with_reducible refine wpAny_bind ?_
  with_reducible refine wpAny_bind ?_
  with_reducible refine wpAny_bind ?_
  wp_delta
  with_reducible refine wpAny_bind ?_
  with_reducible refine wpAny_loadPart' (by assumption) ?_
  with_reducible refine wpAny_pure ?_
  refine tlKS hK rfl hns (kd_lt4 c _ _ _ _ _ _) ?_
  with_reducible refine wpAny_bind ?_
  have tf : (⟨h, g, d, tk, os⟩ : Shared).TypeIs (.ref c.f2) "function" := ⟨_, hf, rfl⟩
  have key : ∀ (E' : Value → Shared → Prop) (Q' : Option (Value × List Value) → Shared → Prop), Q' (some (.ref c.f2, [.ref p])) ⟨h, g, d, tk, os⟩ → wpAny (model prg w) (AA 461 1965) (do let z ← bindSpecial (.ref c.f2) (.ref p); pure (some z)) Q' E' ⟨h, g, d, tk, os⟩ := by
    intro E' Q' hq
    unfold bindSpecial
    with_reducible refine wpAny_bind ?_
    with_reducible refine wpAny_bind ?_
    with_reducible refine wpAny_typeOf (by assumption) ?_
    ((with_reducible refine wpAny_ite_true ?_ ?_); focus (with_unfolding_all rfl; done))
    with_reducible refine wpAny_pure ?_
    with_reducible refine wpAny_pure ?_
    exact hq
  have fin : ∀ r s', (∃ b, r = Value.bool b ∧ Q b s') → wpAny (model prg w) (AA 461 1965) (match (some r : Option Value) with
      | some .notImplemented | none => do rule "list.sort.lt-declined"; truthOfDropped (← richCompare .Lt (.ref p) u)
      | some r => do return ← truthOfDropped r) Q E s' := by
    rintro r s' ⟨b, rfl, hq⟩
    show wpAny _ _ (truthOfDropped (.bool b) >>= pure) _ _ _
    exact wpAny_bind (wpAny_pure (wpAny_pure hq))
  refine wpAny_askSetting ?_
  refine wpAny_ite_split (fun _ => key _ _ ?_) (fun _ => wpTryS (wpGo (key _ _ ?_)))
  · with_reducible refine wpAny_bind ?_
    with_reducible refine wpCallQ ?_
    trace_state
    exact wpCallV (wpAny_mono hc (fun r s' hr => wpAny_pure (fin r s' hr)) fun _ _ x => x)
  · with_reducible refine wpAny_bind ?_
    with_reducible refine wpCallQ ?_
    exact wpCallV (wpAny_mono hc (fun r s' hr => wpAny_pure (fin r s' hr)) fun _ _ x => x)
open PySem PySem.W PySem.W.X PyProof.Rows PySem.Calls
set_option Elab.async false
set_option maxRecDepth 100000
set_option maxHeartbeats 4000000
section
local macro_rules | `(tactic| x_close) => `(tactic| first | exact ⟨_, _, _, _, _, _, _, _, rfl, by assumption, rfl⟩ | exact ⟨_, _, rfl, by assumption, rfl⟩ | exact ⟨rfl, rfl⟩ | (trace_state; fail))
theorem getObj {pp : Program} {w : World} {A : Around} {h : Heap} {g : Array GenState} {d : Drawn} {tk : Nat} {os : OsState} {K ns md p q : Addr} (c : KD) {kx kx' : Int} {tx tx' ty t : Tok} {nx : Nat} {x : Value} {sl : Array (Option Value)} (X : (K2 w.params).In h)
    (hp : h.get? p = some { cls := .ref K, dict := some q, data := .plain, slots := #[some x] }) (hK : h.get? K = some (kCls (kD2 K ns) sl))
    (hns : h.get? ns = some (dO (c.es4 kx tx (.ref md) kx' tx') nx)) (hmd : h.get? md = some (mdO K ty)) :
    wpAny (model pp w) A (runValue (.builtin "proto.getattr_hooked" ⟨[.ref p, .str (Str.ofString "obj") t], []⟩)) (fun v s' => v = x ∧ s' = ⟨h, g, d, tk, os⟩) (fun _ _ => False) ⟨h, g, d, tk, os⟩ := by
  unfold kCls kD2 at hK
  unfold dO at hns
  unfold mdO at hmd
  obtain ⟨mv, t1, t2, t3, fl, sl4, f1, f2, f3, f4, f5, f6, st, k1, u1, k2, u2, k3, u3, k4, u4, k5, u5, k6, u6, k7, u7, k8, u8, k9, u9, k10, u10, k11, u11, k12, u12⟩ := c
  x_run
theorem tcNew {pp : Program} {w : World} {h : Heap} {g : Array GenState} {d : Drawn} {tk : Nat} {os : OsState} {z : Addr} (X : (K2 w.params).In h) :
    wpAny (model pp w) (AA 461 1963) (call (.ref 38) [.ref z]) (fun v s' => ∃ (p q L : Nat) (hh : Int) (h' : Heap) (oL : Obj) (tk' : Nat) (t : Tok), v = .ref p ∧ Mem h h' [] [(L, oL), (p, { cls := .ref 38, dict := some q, data := .plain }), (q, { cls := .type "dict", data := .dict #[⟨hh, .str (Str.ofString "comp_select_list") t, .ref z⟩] 1 })] ∧ s' = ⟨h', g, d, tk', os⟩) (fun _ _ => False) ⟨h, g, d, tk, os⟩ := by
  x_run
theorem tcCmp {pp : Program} {w : World} {A : Around} {h : Heap} {g : Array GenState} {d : Drawn} {tk : Nat} {os : OsState} {p q : Addr} {t u : Tok} {x : Value} {hh : Int} (X : (K2 w.params).In h)
    (hp : h.get? p = some { cls := .ref 38, dict := some q, data := .plain }) (hq : h.get? q = some { cls := .type "dict", data := .dict #[⟨hh, .str (Str.ofString "comp_select_list") u, x⟩] 1 }) :
    wpAny (model pp w) A (runValue (.builtin "proto.getattr_hooked" ⟨[.ref p, .str (Str.ofString "compare") t], []⟩)) (fun v s' => ∃ (b : Nat) (h' : Heap), v = .ref b ∧ Mem h h' [] [(b, { cls := .type "method", data := .fields #[.ref 35, .ref p] })] ∧ s' = ⟨h', g, d, tk, os⟩) (fun _ _ => False) ⟨h, g, d, tk, os⟩ := by
  x_run
theorem tcKeys {pp : Program} {w : World} {A : Around} {h : Heap} {g : Array GenState} {d : Drawn} {tk : Nat} {os : OsState} {p q : Addr} {t u : Tok} {x : Value} {hh : Int} (X : (K2 w.params).In h)
    (hp : h.get? p = some { cls := .ref 38, dict := some q, data := .plain }) (hq : h.get? q = some { cls := .type "dict", data := .dict #[⟨hh, .str (Str.ofString "comp_select_list") u, x⟩] 1 }) :
    wpAny (model pp w) A (runValue (.builtin "proto.getattr_hooked" ⟨[.ref p, .str (Str.ofString "comp_select_list") t], []⟩)) (fun v s' => v = x ∧ s' = ⟨h, g, d, tk, os⟩) (fun _ _ => False) ⟨h, g, d, tk, os⟩ := by
  x_run
end
open PySem PySem.W PySem.W.X PyProof.Rows PySem.Calls
set_option Elab.async false
set_option maxRecDepth 100000
set_option maxHeartbeats 2000000

theorem gaRef {w : World} {A : Around} {E : Value → Shared → Prop} {Q : Value → Shared → Prop} {h : Heap} {g : Array GenState} {d : Drawn} {tk : Nat} {os : OsState} {p C : Addr} {o : Obj} {name : Str}
    (hp : h.get? p = some o) (ho : o.cls = .ref C) (lk : Looks (model prg w) h (typeLookup (.ref C) (Str.ofString "__getattribute__")) (some (.builtin "object.__getattribute__")))
    (hr : wpAny (model prg w) A (runValue (.builtin "proto.getattr_hooked" ⟨[.ref p, .str name tk], []⟩)) (fun v s' => ∃ a, v = .ref a ∧ Q v s') (fun _ _ => False) ⟨h, g, d, tk + 1, os⟩) :
    wpAny (model prg w) A (getAttr (.ref p) name true) Q E ⟨h, g, d, tk, os⟩ := by
  unfold getAttr getAttrBy mkText
  with_reducible refine wpAny_bind ?_
  with_reducible refine wpAny_bind ?_
  with_reducible refine wpAny_fresh' ?_
  with_reducible refine wpAny_pure ?_
  with_reducible refine wpAny_holding ?_
  with_reducible refine wpAny_bind ?_
  wp_delta
  with_reducible refine wpAny_bind ?_
  with_reducible refine wpAny_loadPart' (by assumption) ?_
  with_reducible refine wpAny_pure ?_
  with_reducible refine wpAny_bind ?_
  rw [ho]
  refine lk.here ?_
  ((with_reducible refine wpAny_ite_true ?_ ?_); focus (with_unfolding_all rfl; done))
  wp_delta
  with_reducible refine wpAny_bind ?_
  with_reducible refine wpOnR ?_
  unfold stopQ
  refine wpE hr fun v s' hv => ?_
  obtain ⟨a, rfl, hq⟩ := hv
  exact wpAny_pure hq
section
variable {B : Bs} {P0 P : PM} {s0 s : Shared} {L : Addr} {m : Str → Option Value} {own : List Own} {A : Around}
/-- a ledger of new things alone: they are frozen -/
theorem St.mem {h h' : Heap} {g : Array GenState} {d : Drawn} {tk tk' : Nat} {os : OsState} {news : List (Addr × Obj)} (hs : St B P0 s0 P L m own ⟨h, g, d, tk, os⟩) (D : Mem h h' [] news) :
    ∃ P1, P.le P1 ∧ (∀ q ∈ news, P1 q.1 = some q.2) ∧ St B P0 s0 P1 L m own ⟨h', g, d, tk', os⟩ := by
  have h1 := hs.keep (s' := ⟨h', g, d, tk', os⟩) (memGrow D) rfl hs.wd.gb
  obtain ⟨P1, l, f, h2⟩ := hs.freezeNew h1
  exact ⟨P1, l, fun q hq => f _ _ (gNew_of (D.nw q hq).2 (D.nw q hq).1), h2⟩
inductive RTc (P : PM) (tc : Addr) (vk : Value) : Prop
  | mk (q : _) (hh : _) (u : _) (x1 : P tc = some { cls := .ref 38, dict := some q, data := .plain }) (x2 : P q = some { cls := .type "dict", data := .dict #[⟨hh, .str (Str.ofString "comp_select_list") u, vk⟩] 1 })
theorem RTc.mono {P P' : PM} {tc : Addr} {vk : Value} (l : P.le P') (r : RTc P tc vk) : RTc P' tc vk := let ⟨q, hh, u, a, b⟩ := r; ⟨q, hh, u, l _ _ a, l _ _ b⟩
theorem lk38 {B : Bs} {h : Heap} (X : (K2 B.w.params).In h) : Looks (mdl B) h (typeLookup (.ref 38) (Str.ofString "__getattribute__")) (some (.builtin "object.__getattribute__")) := Looks.of_peek X (by kernel_rfl)
theorem gaKeys {e : Env} {ns : List Str} {vs : List (Option Value)} {tc ka : Addr} {pos : Pos} {x : Str} {np : Pos} {Q : Value → Shared → Prop} (ok : Ok B) (h : St B P0 s0 P L (asg ns vs) own s) (fe : FE e L ns) (lk : Lk ns vs x (.ref tc)) (r : RTc P tc (.ref ka))
    (q : ∀ s', St B P0 s0 P L (asg ns vs) own s' → Q (.ref ka) s') : wpAny (mdl B) A (eval (.Attribute (.Name x np) (Str.ofString "comp_select_list") pos) e) Q no s := by
  refine Attribute_name (ldv h fe lk ?_)
  obtain ⟨hp, g, d, tk, os⟩ := s
  obtain ⟨qa, hh, u, e1, e2⟩ := r
  have X := K2_in ok h.wd
  have h1 := h.wd.fz _ _ e1
  refine gaRef h1 rfl (lk38 X) (wpAny_mono (tcKeys X h1 (h.wd.fz _ _ e2)) (fun v s' hv => ?_) fun _ _ z => z)
  obtain ⟨rfl, rfl⟩ := hv
  exact ⟨ka, rfl, q _ (h.tok _)⟩
end
open PySem PySem.W PySem.W.X PyProof.Rows PySem.Calls
set_option Elab.async false
set_option maxRecDepth 100000
set_option maxHeartbeats 2000000
noncomputable def tcBody : List Stmt := match PySem.Challenge.pw_mj0128_01.main.body[(1 : Nat)]? with
  | some (.ClassDef _ _ _ b _ _ _ _ _ _ _) => b
  | _ => []
noncomputable def cmpBody : List Stmt := match tcBody[(1 : Nat)]? with
  | some (.FunctionDef _ _ b _ _ _ _ _ _ _) => b
  | _ => []
section
variable {B : Bs} {P : PM} {s : Shared}
noncomputable def SpecC (B : Bs) (A : Around) (f : Value) (args : List Value) (P : PM) (s : Shared) (φ : PM → Value → Prop) : Prop :=
  codeAny (mdl B) A (.call f ⟨args, []⟩) (fun r s' => match r with | .ok (.ret v) => Out B P s φ v s' | .ok _ => False | .error e => False) s
theorem SpecC.spec {A : Around} {f : Value} {args : List Value} {φ : PM → Value → Prop} (h : SpecC B A f args P s φ) : Spec B A f args P s φ := wpAny_call h
/-- a frozen def is entered -/
theorem enterP (ok : Ok B) (wd : Wd B P s) {A : Around} {f : Addr} {fo : Obj} {fd : FuncData} {body : List Stmt} {args : List Value} {ps more : List Str} {φ : PM → Value → Prop}
    (hroom : A.depth < recursionLimit) (hf : s.heap.get? f = some fo) (hd : fo.data = .func fd) (hcr : s.heap.CodeRec fd.code fd.qualname)
    (hbody : fd.body = .stmts body) (hbind : BindsTo s fd ⟨args, []⟩ (ps.zip args)) (hlen : ps.length = args.length)
    (hcell : (fd.scope.names.all fun x => decide (x.2 ≠ .cell)) = true) (hloc : ((ps ++ more).all fun x => decide (fd.scope.names.lookup x = some .local) && !(x == ("__debug__" : Str))) = true) (hnd : (ps ++ more).Nodup)
    (hg : fd.globals = mainGlobals) (hb : fd.builtins = builtinsNs)
    (h : ∀ L s1, St B P s P L (asg (ps ++ more) (args.map some ++ more.map fun _ => none)) [] s1 → FE (callEnv fd L f) L (ps ++ more) →
      wpAny (mdl B) (A.deeper (callEnv fd L f)) (execs body (callEnv fd L f)) (fun fl s' => Out B P s φ (match fl with | .ret v => v | _ => .none) s') (fun _ _ => False) s1)
    (hco : fd.scope.isCoroutine = false) (hgen : fd.scope.isGenerator = false) (hk : fd.scope.kind = .function) :
    SpecC B A (.ref f) args P s φ := by
  have loc' : ∀ x ∈ ps ++ more, fd.scope.names.lookup x = some .local ∧ (x == ("__debug__" : Str)) = false := fun x hx => by
    have := List.all_eq_true.mp hloc x hx
    rw [Bool.and_eq_true] at this
    exact ⟨of_decide_eq_true this.1, by simpa using this.2⟩
  have ndp : ps.Nodup := (List.nodup_append.mp hnd).1
  refine codeAny_call_def (binds := ps.zip args) hroom hf hd (wd.lim ok) hcr hbody hbind
    (fun x hx => of_decide_eq_true (List.all_eq_true.mp hcell x hx)) (fun x hx => (loc' x.1 (List.mem_append_left _ (List.of_mem_zip hx).1)).1) (fun h0 hns hk0 => ?_) hco hgen hk
  refine wpAny_mono (h s.heap.objs.size _ (St.cong (St.start wd hns hk0) fun x => ?_) ⟨rfl, hk, fun x hx => loc' x hx, hnd, hg, hb⟩) (fun fl s' o => o) fun _ _ x => x.elim
  rw [asg_zip ps args x ndp hlen, asg_append _ _ _ _ _ (by simpa using hlen) (fun u hu => by obtain ⟨_, _, rfl⟩ := List.mem_map.mp hu; rfl)]
theorem enterBd (ok : Ok B) (wd : Wd B P s) (f c : Nat) (body : List Stmt) (ps more : List Str) {d u : Nat} {args : List Value} {φ : PM → Value → Prop}
    (hK : ∀ p, fnHere (hz.heap_157 p) f = true) (hc : ∀ p, (fdAt p f).code = .ref c) (hci : ∀ p, codeIn (hz.heap_157 p) (.ref c) (fdAt p f).qualname = true)
    (hbody : ∀ p, (fdAt p f).body = .stmts body) (hbind : ∀ p, bindArgs (fdAt p f) ⟨args, []⟩ = pure (ps.zip args))
    (hfl : ∀ p, ((fdAt p f).globals = mainGlobals ∧ (fdAt p f).builtins = builtinsNs) ∧ (fdAt p f).scope.isCoroutine = false ∧ (fdAt p f).scope.isGenerator = false ∧ (fdAt p f).scope.kind = .function ∧
      ((fdAt p f).scope.names.all fun x => decide (x.2 ≠ .cell)) = true ∧ ((ps ++ more).all fun x => decide ((fdAt p f).scope.names.lookup x = some .local) && !(x == ("__debug__" : Str))) = true)
    (hnd : decide (ps ++ more).Nodup = true) (htb : decide (f ∉ tabs ∧ c ∉ tabs) = true) (hlen : ps.length = args.length) (hroom : d < recursionLimit)
    (h : ∀ L s1, St B P s P L (asg (ps ++ more) (args.map some ++ more.map fun _ => none)) [] s1 → FE (env B f L) L (ps ++ more) →
      wpAny (mdl B) (AA (d + 1) (u + 3)) (execs body (env B f L)) (fun fl s' => Out B P s φ (match fl with | .ret v => v | _ => .none) s') (fun _ _ => False) s1) :
    SpecC B (AA d u) (.ref f) args P s φ := by
  obtain ⟨oc, od, osl, e⟩ := fnHere_of (hK B.w.params)
  obtain ⟨h1, h2, h3, h4, h5, h6⟩ := hfl B.w.params
  have ht := of_decide_eq_true htb
  exact enterP ok wd hroom (wd.base (ok.X _ _ e) ht.1) rfl ((hc _).symm ▸ wd.codeRec (codeRec_of ok.X (hci _)) ht.2) (hbody _) (BindsTo.of_eq (hbind _)) hlen h5 h6 (of_decide_eq_true hnd) h1.1 h1.2 h h2 h3 h4
end
theorem cmpLt {B : Bs} {A : Around} {E : Value → Shared → Prop} {s : Shared} {K : Int} {a b : Row} {x y : Value} {Q : Value → Shared → Prop} (hx : RKv a K x) (hy : RKv b K y) (q : Q (.bool (colLt K a b)) s) : wpAny (mdl B) A (compareOp .Lt x y) Q E s := by
  unfold RKv at hx hy
  unfold colLt at q
  by_cases h : isS K = true
  · rw [if_pos h] at hx hy q
    obtain ⟨t, rfl⟩ := hx
    obtain ⟨u, rfl⟩ := hy
    exact PyProof.Rows.lt_str q
  · rw [if_neg h] at hx hy q
    obtain ⟨t, rfl⟩ := hx
    obtain ⟨u, rfl⟩ := hy
    exact PyProof.Rows.lt_int q
theorem cmpGt {B : Bs} {A : Around} {E : Value → Shared → Prop} {s : Shared} {K : Int} {a b : Row} {x y : Value} {Q : Value → Shared → Prop} (hx : RKv a K x) (hy : RKv b K y) (q : Q (.bool (colLt K b a)) s) : wpAny (mdl B) A (compareOp .Gt x y) Q E s := by
  unfold RKv at hx hy
  unfold colLt at q
  by_cases h : isS K = true
  · rw [if_pos h] at hx hy q
    obtain ⟨t, rfl⟩ := hx
    obtain ⟨u, rfl⟩ := hy
    exact PySem.P.gt_str q
  · rw [if_neg h] at hx hy q
    obtain ⟨t, rfl⟩ := hx
    obtain ⟨u, rfl⟩ := hy
    exact PyProof.Rows.gt_int q
theorem spec35 {B : Bs} {P : PM} {s : Shared} (ok : Ok B) (wd : Wd B P s) {tc : Addr} {vk x y : Value} {ks : List (Int × Int)} {r r' : Row} (rt : RTc P tc vk) (rk : RKeys P vk ks) (hl : ks.length ≤ 10) (hks : ∀ k ∈ ks, 0 ≤ k.1 ∧ k.1 < 8) (rx : RRow P x r) (ry : RRow P y r') :
    SpecC B (AA 462 1968) (.ref 35) [.ref tc, x, y] P s (fun P' v => ∃ t, v = .int (cmpK ks r r') t) := by
  refine enterBd ok wd 35 34 cmpBody ["self", "left", "right"] ["index", "direction", "l", "r"] (fun p => by kernel_rfl) (fun p => by kernel_rfl) (fun p => by kernel_rfl) (fun p => by kernel_rfl) (fun p => by kernel_rfl) (fun p => ⟨⟨by kernel_rfl, by kernel_rfl⟩, by kernel_rfl, by kernel_rfl, by kernel_rfl, by kernel_rfl, by kernel_rfl⟩) (by kernel_rfl) (by kernel_rfl) rfl (by decide) ?_
  intro L s1 h fe
  dsimp only [List.cons_append, List.nil_append, List.map] at h fe
  obtain ⟨kx, rl, lk⟩ := id rk
  obtain ⟨ka, ok9, rfl, pk, ik⟩ := id rl
  refine seq ?_
  refine wpAny_For ?_
  refine gaKeys ok h fe (by walk_at "lk") rt fun s1 h => ?_
  refine iterLT (B := B) h rfl rl fun it p s1 hit lg h => ?_
  have h := h
  refine forItrT (B := B) hit lg ?_ (fun k P' vs own => ∃ a b c d, own = [] ∧ vs = [some (.ref tc), some x, some y, a, b, c, d] ∧ cmpK (ks.drop k) r r' = cmpK ks r r')
    ⟨none, none, none, none, rfl, rfl, by simp⟩ h ?_ ?_
  · intro k v hv
    obtain ⟨key, ek, tK, td, a, o, rfl, _⟩ := lk.at hv
    exact ⟨a, rfl⟩
  · rintro k P' vs' own' z s1 hk hz l3 ⟨a, b, c, d, rfl, rfl, inv⟩ h
    obtain ⟨key, ek, tK, td, rkey⟩ := lk.at hz
    have rkey := rkey.mono l3
    have hkey := hks key (List.mem_of_getElem? ek)
    have nx : ks.drop k = key :: ks.drop (k + 1) := by
      obtain ⟨hlt, e5⟩ := List.getElem?_eq_some_iff.mp ek
      rw [List.drop_eq_getElem_cons hlt, e5]
    rw [nx, cmpK] at inv
    obtain ⟨vx, x9, rx9, ex9, hx9⟩ := colAt hkey.1 hkey.2 (rx.mono l3)
    obtain ⟨vy, y9, ry9, ey9, hy9⟩ := colAt hkey.1 hkey.2 (ry.mono l3)
    refine unpT (B := B) h rfl rkey rfl rfl fun s1 h => ?_
    walk_at "h"
    with_reducible refine asgN h fe (by walk_at "up") fun s1 h => ?_
    with_reducible refine asgN h fe (by walk_at "up") fun s1 h => ?_
    with_reducible refine asg0 ?_
    walk_at "h"
    with_reducible refine seq ?_
    walk_at "h"
    with_reducible refine wpAny_Assign_Name ?_ (by with_unfolding_all rfl)
    walk_at "h"
    with_reducible refine Subscript_ ?_
    with_reducible refine ldv h fe (by walk_at "lk") ?_
    with_reducible refine ldv h fe (by walk_at "lk") ?_
    refine atT h rx9 hkey.1 (by lia) ex9 ?_ (by intros; with_unfolding_all rfl)
    with_reducible refine stv h fe (by walk_at "up") fun s1 h => ?_
    walk_at "n"
    with_reducible refine seq ?_
    walk_at "h"
    with_reducible refine wpAny_Assign_Name ?_ (by with_unfolding_all rfl)
    walk_at "h"
    with_reducible refine Subscript_ ?_
    with_reducible refine ldv h fe (by walk_at "lk") ?_
    with_reducible refine ldv h fe (by walk_at "lk") ?_
    refine atT h ry9 hkey.1 (by lia) ey9 ?_ (by intros; with_unfolding_all rfl)
    with_reducible refine stv h fe (by walk_at "up") fun s1 h => ?_
    walk_at "n"
    with_reducible refine seq ?_
    walk_at "h"
    with_reducible refine wpAny_If ?_
    with_reducible refine wpAny_isTrue_Compare1 ?_ (by with_unfolding_all rfl)
    with_reducible refine ldv h fe (by walk_at "lk") ?_
    with_reducible refine ldv h fe (by walk_at "lk") ?_
    refine cmpLt hx9 hy9 ?_
    with_reducible refine wpAny_truthy_bool ?_
    by_cases c1 : colLt key.1 r r' = true
    · rw [if_pos c1] at inv ⊢
      with_reducible refine seq ?_
      walk_at "h"
      with_reducible refine wpAny_Return_some ?_
      walk_at "h"
      with_reducible refine UnaryOp_ ?_
      with_reducible refine ldv h fe (by walk_at "lk") ?_
      with_reducible refine negN h fun _ s1 h => ?_
      with_reducible refine Nx.ret ?_
      with_reducible refine Nx.ret ?_
      exact Lp.ret (Nx.ret (h.out ⟨_, congrArg (fun z => Value.int z _) inv⟩))
    · rw [if_neg c1] at inv ⊢
      with_reducible refine seq0 ?_
      walk_at "n"
      with_reducible refine seq ?_
      walk_at "h"
      with_reducible refine wpAny_If ?_
      with_reducible refine wpAny_isTrue_Compare1 ?_ (by with_unfolding_all rfl)
      with_reducible refine ldv h fe (by walk_at "lk") ?_
      with_reducible refine ldv h fe (by walk_at "lk") ?_
      refine cmpGt hx9 hy9 ?_
      with_reducible refine wpAny_truthy_bool ?_
      by_cases c2 : colLt key.1 r' r = true
      · rw [if_pos c2] at inv ⊢
        with_reducible refine seq ?_
        walk_at "h"
        with_reducible refine wpAny_Return_some ?_
        with_reducible refine ldv h fe (by walk_at "lk") ?_
        with_reducible refine Nx.ret ?_
        with_reducible refine Nx.ret ?_
        exact Lp.ret (Nx.ret (h.out ⟨_, congrArg (fun z => Value.int z _) inv⟩))
      · rw [if_neg c2] at inv ⊢
        with_reducible refine seq0 ?_
        walk_at "n"
        with_reducible refine seq0 ?_
        exact Lp.next ⟨P', _, _, l3, ⟨_, _, _, _, rfl, rfl, inv⟩, h⟩
  · rintro P' vs' own' s1 l3 ⟨a, b, c, d, rfl, rfl, inv⟩ h
    walk_at "n"
    walk_at "h"
    with_reducible refine seq ?_
    walk_at "h"
    with_reducible refine wpAny_Return_some ?_
    with_reducible refine kint h fun _ s1 h => ?_
    with_reducible refine Nx.ret ?_
    refine h.out ⟨_, congrArg (fun z => Value.int z _) ?_⟩
    rw [← inv, show ks.drop kx.length = [] by rw [lk.length]; simp]
    rfl
open PySem PySem.W PySem.W.X PyProof.Rows PySem.Calls
set_option Elab.async false
set_option maxRecDepth 100000
set_option maxHeartbeats 2000000
inductive KCl (P : Addr → Option Obj) (K : Addr) : Prop
  | mk (ns md : Addr) (c : KD) (kx kx' : Int) (tx tx' ty : Tok) (nx : Nat) (sl : Array (Option Value)) (x1 : P K = some (kCls (kD2 K ns) sl)) (x2 : P ns = some (dO (c.es4 kx tx (.ref md) kx' tx') nx)) (x3 : P md = some (mdO K ty))
theorem kd_ga4 (c : KD) (n : Nat) (ka kb : Int) (ta tb : Tok) (va : Value) : nsLook (Str.ofString "__getattribute__") (dO (c.es4 ka ta va kb tb) n) = pure none := by kernel_rfl
section
variable {B : Bs} {P0 P : PM} {s0 s : Shared} {L : Addr} {m : Str → Option Value} {own : List Own} {A : Around}
theorem gaObj {e : Env} {ns : List Str} {vs : List (Option Value)} {p q K xa : Addr} {pos : Pos} {x : Str} {np : Pos} {Q : Value → Shared → Prop} (ok : Ok B) (h : St B P0 s0 P L (asg ns vs) own s) (fe : FE e L ns) (lk : Lk ns vs x (.ref p)) (kc : KCl P K)
    (hp : P p = some { cls := .ref K, dict := some q, data := .plain, slots := #[some (.ref xa)] })
    (hq : ∀ s', St B P0 s0 P L (asg ns vs) own s' → Q (.ref xa) s') : wpAny (mdl B) A (eval (.Attribute (.Name x np) (Str.ofString "obj") pos) e) Q no s := by
  refine Attribute_name (ldv h fe lk ?_)
  obtain ⟨hh, g, d, tk, os⟩ := s
  obtain ⟨na, md, c, kx, kx', tx, tx', ty, nx, sl, e1, e2, e3⟩ := kc
  have X := K2_in ok h.wd
  have h1 := h.wd.fz _ _ hp
  have h2 := h.wd.fz _ _ e1
  have h3 := h.wd.fz _ _ e2
  refine gaRef h1 rfl (fun A Q E s k q => ?_) (wpAny_mono (getObj c X h1 h2 h3 (h.wd.fz _ _ e3)) (fun v s' hv => ?_) fun _ _ z => z)
  · obtain ⟨_, _, _, _, _⟩ := s
    exact tlK (k _ _ h2) rfl (k _ _ h3) (kd_ga4 c _ _ _ _ _ _) (by kernel_rfl) q
  obtain ⟨rfl, rfl⟩ := hv
  exact ⟨xa, rfl, hq _ (h.tok _)⟩
theorem callBM {e : Env} {pos : Pos} {bm f : Addr} {self : Value} {x : Expr} {rest : List Expr} {E : Value → Shared → Prop} {Q : Value → Shared → Prop} {K : Frag} {M : Model} (hf : fnIn K f = true)
    (h : wpAny M A (spliced (backTo pos (starEach (x :: rest) e))) (fun vs s₁ => MethP K bm f self s₁.heap ∧ wpAny M A (call (.ref bm) vs) Q E s₁) E s)
    (he : starEach (x :: rest) e = (false, eval x e) :: starEach rest e) (hplain : (backTo pos (starEach rest e)).any (·.1) = false) : wpAny M A (callWith pos (.ref bm) [] (backTo pos (starEach (x :: rest) e)) []) Q E s := by
  rw [he] at h ⊢
  exact callWith_of (P := MethP K bm f self) (by show ((false || (backTo pos (starEach rest e)).any (·.1)) || false) = false; rw [hplain]; rfl) (keeps_M hf) (evalArgs_plain h)
end
theorem lexInt {ks : List (Int × Int)} {r r' : Row} : decide (cmpK ks r r' < 0) = lexLt ks r r' := rfl
noncomputable abbrev fdLt (cc : Addr) (pm : Value) (c2 : Addr) (v2 : Value) : FuncData := { name := dName 3, qualname := dQual "__lt__", params := dParams 3, body := .stmts (dBody 3), scope := dScope 3, globals := mainGlobals, closure := [(Str.ofString "mycmp", cc)], defaults := .none, kwdefaults := .none, doc := .none, pyModule := pm, annotations := none, code := .ref c2, closureTuple := v2, builtins := builtinsNs }
theorem specLt {B : Bs} {P : PM} {s : Shared} (ok : Ok B) (wd : Wd B P s) {f2 c2 cc bm tc K p q p1 q1 xa ya : Addr} {pm v2 vk : Value} {o2 oc : Obj} {ks : List (Int × Int)} {r r' : Row}
    (hf : P f2 = some (fnO (dName 3) (dQual "__lt__") (dParams 3) (dBody 3) (dScope 3) [(Str.ofString "mycmp", cc)] pm c2 v2)) (hc2 : P c2 = some o2) (cd : CdOk o2 (dQual "__lt__"))
    (hcc : P cc = some oc) (hcv : isCel (some (.ref bm)) oc) (hbm : P bm = some (methodObj (.ref 35) (.ref tc))) (kc : KCl P K)
    (rt : RTc P tc vk) (rk : RKeys P vk ks) (hl : ks.length ≤ 10) (hks : ∀ k ∈ ks, 0 ≤ k.1 ∧ k.1 < 8) (rx : RRow P (.ref xa) r) (ry : RRow P (.ref ya) r')
    (hp : P p = some { cls := .ref K, dict := some q, data := .plain, slots := #[some (.ref xa)] }) (hp1 : P p1 = some { cls := .ref K, dict := some q1, data := .plain, slots := #[some (.ref ya)] }) :
    SpecC B (AA 461 1965) (.ref f2) [.ref p, .ref p1] P s (fun P' v => v = .bool (lexLt ks r r')) := by
  obtain ⟨vs2, u2, cl2, d2, e2⟩ := cd
  refine enterP ok wd (fo := fnO (dName 3) (dQual "__lt__") (dParams 3) (dBody 3) (dScope 3) [(Str.ofString "mycmp", cc)] pm c2 v2) (fd := fdLt cc pm c2 v2) (body := dBody 3) (ps := ["self", "other"]) (more := []) (by decide) (wd.fz _ _ hf) rfl ⟨c2, o2, vs2, u2, rfl, wd.fz _ _ hc2, d2, e2⟩ rfl (BindsTo.of_eq (by kernel_rfl)) rfl (by kernel_rfl) (by kernel_rfl) (by decide) rfl rfl ?_ (by kernel_rfl) (by kernel_rfl) (by kernel_rfl)
  intro L s1 h fe
  simp only [List.map_cons, List.map_nil, List.append_nil] at h fe
  refine seq ?_
  refine wpAny_Return_some ?_
  refine wpAny_Compare1 ?_ (by with_unfolding_all rfl)
  refine Call_ ?_ (by with_unfolding_all rfl)
  refine wpAny_Name (wpAny_loadName_free (c := cc) (v := .ref bm) (by kernel_rfl) (by kernel_rfl) (by kernel_rfl) ⟨oc, h.wd.fz _ _ hcc, hcv⟩ ?_) (by decide)
  refine callBM (K := K2 B.w.params) (f := 35) (self := .ref tc) (by kernel_rfl) ?_ (by with_unfolding_all rfl) (by with_unfolding_all rfl)
  refine args_cons (gaObj ok h fe (by walk_at "lk") kc hp fun s1 h => ?_) (by with_unfolding_all rfl)
  refine args_cons (gaObj ok h fe (by walk_at "lk") kc hp1 fun s1 h => args_nil ?_) (by with_unfolding_all rfl)
  refine ⟨⟨h.wd.fz _ _ hbm, K2_in ok h.wd⟩, wpAny_call (method_call (h.wd.fz _ _ hbm) ?_)⟩
  refine codeAny_mono (spec35 ok h.wd rt rk hl hks rx ry) fun r1 s2 o => ?_
  match r1, o with
  | .ok (.ret v), o =>
    obtain ⟨P', l, ⟨t, rfl⟩, h⟩ := h.back o
    refine kint h fun _ s1 h => ?_
    refine PyProof.Rows.lt_int ?_
    exact Nx.ret (h.out (congrArg Value.bool lexInt))
  | .ok .next, o => exact o.elim
  | .ok .cont, o => exact o.elim
  | .ok .brk, o => exact o.elim
  | .error _, o => exact o.elim
open PySem PySem.W PySem.W.X PyProof.Rows PySem.Calls
set_option Elab.async false
set_option maxRecDepth 100000
set_option maxHeartbeats 2000000
inductive KIn (K : Addr) (P : PM) (v x : Value) : Prop
  | mk (p q : Addr) (x1 : v = .ref p) (x2 : P p = some { cls := .ref K, dict := some q, data := .plain, slots := #[some x] })
theorem Wd.mem {B : Bs} {P : PM} {h h' : Heap} {g : Array GenState} {d : Drawn} {tk tk' : Nat} {os : OsState} {news : List (Addr × Obj)} (wd : Wd B P ⟨h, g, d, tk, os⟩) (D : Mem h h' [] news) {φ : PM → Value → Prop} {v : Value}
    (hφ : ∀ P1, P.le P1 → (∀ q ∈ news, P1 q.1 = some q.2) → φ P1 v) : Out B P ⟨h, g, d, tk, os⟩ φ v ⟨h', g, d, tk', os⟩ := by
  have gr := memGrow D
  have wd1 : Wd B P ⟨h', g, d, tk', os⟩ := wd.step (fun b o e => gr b o (wd.fz b o e)) (fun b _ o e => gr b o e) rfl wd.gb
  have gn : ∀ x o, gNew h h' x = some o → h.get? x = none ∧ h'.get? x = some o := fun x o e => by
    unfold gNew at e
    split at e
    · rename_i z
      exact ⟨by simpa using z, e⟩
    · cases e
  have cs : ∀ x o, (match P x with | some o => some o | none => gNew h h' x) = some o → P x = some o ∨ gNew h h' x = some o := fun x o e => by
    cases e1 : P x with
    | none => rw [e1] at e; exact .inr e
    | some o' => rw [e1] at e; exact .inl e
  have pn : ∀ x o, gNew h h' x = some o → P x = none := fun x o e => by
    cases e1 : P x with
    | none => rfl
    | some o' => have := wd.fz x o' e1; rw [(gn x o e).1] at this; cases this
  refine ⟨fun x => match P x with | some o => some o | none => gNew h h' x, wd1.more (fun x o e => by rw [e]) (fun x o e => ?_) (fun a ha => ?_), fun x o e => by dsimp only; rw [e], fun x o e => ?_, fun a o e _ => gr a o e, hφ _ (fun x o e => by rw [e]) fun q hq => ?_⟩
  · rcases cs x o e with z | z
    · exact wd1.fz x o z
    · exact (gn x o z).2
  · obtain ⟨o, eo⟩ := wd.tabAt ha
    dsimp only at eo
    show (match P a with | some o => some o | none => gNew h h' a) = none
    rw [wd.nt a ha]
    unfold gNew; rw [eo]; rfl
  · rcases cs x o e with z | z
    · exact .inl z
    · exact .inr (gn x o z).1
  · have e := gNew_of (D.nw q hq).2 (D.nw q hq).1
    show (match P q.1 with | some o => some o | none => gNew h h' q.1) = some q.2
    rw [pn _ _ e]; exact e
theorem arr1 {vs : Array Value} {x : Value} (e : vs[1]? = some x) : ∃ a0 rest, vs = ⟨a0 :: x :: rest⟩ := by
  obtain ⟨l⟩ := vs
  match l, e with
  | [], e => simp at e
  | [_], e => simp at e
  | a :: b :: r, e =>
    simp at e
    subst e
    exact ⟨a, r, rfl⟩
theorem keyFnK {B : Bs} {P : PM} (ok : Ok B) {K cc bm tc : Addr} {pm vk : Value} {oc : Obj} {ks : List (Int × Int)} (kat : KAt P pm cc K) (hcc : P cc = some oc) (hcv : isCel (some (.ref bm)) oc) (hbm : P bm = some (methodObj (.ref 35) (.ref tc)))
    (rt : RTc P tc vk) (rk : RKeys P vk ks) (hl : ks.length ≤ 10) (hks : ∀ k ∈ ks, 0 ≤ k.1 ∧ k.1 < 8) : KeyFn B P K ks (KIn K) := by
  obtain ⟨ns, md, bt, c, t0, kx, kx', tx, tx', ty, nx, c1, c2, v1, v2, o1, o2, e1, e2, e3, e4, e5, e6, d1, e7, d2⟩ := kat
  refine ⟨fun P P' v x l ⟨p, q, ev, ep⟩ => ⟨p, q, ev, l _ _ ep⟩, ?_, ?_, ?_⟩
  · intro P' s' x r l wd rr
    obtain ⟨h, g, d, tk, os⟩ := s'
    obtain ⟨o1c, o1d, o1t, o1s⟩ := o1
    obtain ⟨vs, u, hc1, hd1, hv1⟩ := d1
    dsimp only at hc1 hd1
    subst hc1 hd1
    obtain ⟨a0, rest, rfl⟩ := arr1 hv1
    have fz : ∀ a o, P a = some o → h.get? a = some o := fun a o e => wd.fz _ _ (l _ _ e)
    refine wpAny_mono (keyMake (x := x) (cl := .none) (K2_in ok wd) (fz _ _ e1) (fz _ _ e2) (fz _ _ e3) (fz _ _ e4) (fz _ _ e6)) (fun v s2 hh => ?_) fun _ _ z => z
    obtain ⟨p, q, L, h', oL, tk', rfl, D, rfl⟩ := hh
    exact wd.mem D fun P1 l1 f1 => ⟨p, q, rfl, f1 (p, _) (.tail _ (.head _))⟩
  · rintro P' s' v x l wd ⟨p, q, rfl, ep⟩
    exact (Looks.ld (wd.fz _ _ ep)).andThen .now
  · rintro P0 s0 P' L m own s' v u x y r r' Q' l ⟨p, q, rfl, ep⟩ ⟨p1, q1, rfl, ep1⟩ rx ry h hq
    obtain ⟨xa, rfl⟩ : ∃ a, x = .ref a := by obtain ⟨_, _, _, _, _, _, _, _, a, _, e, _⟩ := rx; exact ⟨a, e⟩
    obtain ⟨ya, rfl⟩ : ∃ a, y = .ref a := by obtain ⟨_, _, _, _, _, _, _, _, a, _, e, _⟩ := ry; exact ⟨a, e⟩
    obtain ⟨hh, g, d, tk, os⟩ := s'
    have wd := h.wd
    have kc : KCl P' K := ⟨ns, md, c, kx, kx', tx, tx', ty, nx, _, l _ _ e1, l _ _ e2, l _ _ e3⟩
    have sp := specLt ok wd (l _ _ e5) (l _ _ e7) d2 (l _ _ hcc) hcv (l _ _ hbm) kc (rt.mono l) (rk.mono l) hl hks rx ry ep ep1
    refine oneLtK (c := c) (wd.fz _ _ ep) (wd.fz _ _ (l _ _ e1)) (wd.fz _ _ (l _ _ e2)) (wd.fz _ _ (l _ _ e5)) ?_
    exact callS h sp.spec fun P2 v2 s2 l2 hv h2 => ⟨_, hv, hq P2 s2 l2 h2⟩
theorem mg77 {B : Bs} (ok : Ok B) : B.mg "cmp_to_key" = some (.ref 77) := mg_of ok.X ok.g (by kernel_rfl)
theorem mg38 {B : Bs} (ok : Ok B) : B.mg "TupleComp" = some (.ref 38) := mg_of ok.X ok.g (by kernel_rfl)
theorem keyMk {B : Bs} (ok : Ok B) (k0 : B.k72 = #[]) : KeyMk B := by
  intro P0 P1 s s1 L vs own vk ks Q1 rk hl hks fe lk h hq
  refine callG (f := 77) ok h fe (mg77 ok) (by kernel_rfl) (by decide) (by with_unfolding_all rfl) (by with_unfolding_all rfl) (by with_unfolding_all rfl) ?_
  refine args_cons ?_ (by with_unfolding_all rfl)
  refine Attribute_any_ ?_ (by with_unfolding_all rfl)
  refine Call_ ?_ (by with_unfolding_all rfl)
  refine ldg ok h fe (mg38 ok) (by kernel_rfl) ?_
  have X := K2_in ok h.wd
  refine callWith_K (K := K2 B.w.params) X (by kernel_rfl) ?_ (by with_unfolding_all rfl) (by with_unfolding_all rfl)
  refine args_cons (ldv h fe lk (args_nil ?_)) (by with_unfolding_all rfl)
  refine ⟨X, ?_⟩
  obtain ⟨ka, ek⟩ : ∃ a, vk = .ref a := by obtain ⟨_, ⟨a, _, e, _⟩, _⟩ := rk; exact ⟨a, e⟩
  subst ek
  obtain ⟨hp, g, d, tk, os⟩ := s1
  refine wpE (tcNew X) fun v s2 hh => ?_
  obtain ⟨tc, q, _, hsh, h', oL, tk', t, rfl, D, rfl⟩ := hh
  obtain ⟨P2, l2, f2, h⟩ := h.mem (tk' := tk') D
  have rt : RTc P2 tc (.ref ka) := ⟨q, hsh, t, f2 (tc, _) (.tail _ (.head _)), f2 (q, _) (.tail _ (.tail _ (.head _)))⟩
  have X := K2_in ok h.wd
  have z1 := h.wd.fz _ _ (f2 (tc, _) (.tail _ (.head _)))
  have z2 := h.wd.fz _ _ (f2 (q, _) (.tail _ (.tail _ (.head _))))
  refine gaRef z1 rfl (lk38 X) (wpAny_mono (tcCmp X z1 z2) (fun v s2 hh => ?_) fun _ _ z => z)
  obtain ⟨bm, h3, rfl, D3, rfl⟩ := hh
  obtain ⟨P3, l3, f3, h⟩ := h.mem (tk' := tk' + 1) D3
  refine ⟨bm, rfl, args_nil ⟨h.fn ok (by kernel_rfl), ?_⟩⟩
  have sp := specCmp ok k0 h.wd (mc := .ref bm)
  have sp : wpAny (mdl B) (AA 461 1963) (call (.ref 77) [.ref bm]) _ _ _ := fun Γ p hΓ => sp Γ p ⟨hΓ.1, Nat.le_trans hΓ.2.1 (by decide), fun _ hl => (nomatch hl), fun _ hl => (nomatch hl), Nat.le_trans hΓ.2.2.2.2 (by decide)⟩
  refine wpAny_mono sp (fun v s2 hh => ?_) fun _ _ z => z
  obtain ⟨k', o⟩ := hh
  obtain ⟨P4, l4, ⟨a, cc, pm, rfl, kat, oc, ecc, icc⟩, h⟩ := h.backK o
  exact hq k' P4 a _ s2 (l2.trans (l3.trans l4)) (keyFnK (ok.k k') kat ecc icc (l4 _ _ (f3 (bm, _) (.head _))) (rt.mono (l3.trans l4)) (rk.mono (l2.trans (l3.trans l4))) hl hks) h
open PySem PySem.W PySem.W.X PyProof.Rows PySem.Calls PySem.W.ZRun
set_option Elab.async false
set_option maxRecDepth 100000
set_option maxHeartbeats 8000000
theorem codeHd_table {p : Params} {c t : Addr} {h : Heap} (X : (hz.heap_157 p).In h) (hc : codeHdIn (hz.heap_157 p) c t = true) : isCodeTable h t := by
  obtain ⟨o, vs, _, _, _, _, _, _, _, e1, e2, e3, e4, _⟩ := codeHd_of_K X hc
  exact ⟨c, o, vs, e1, e2, e3, e4⟩
theorem tab0 {p : Params} {t : Addr} {h : Heap} (X : (hz.heap_157 p).In h) (ht : t ∈ tabs) : h.get? t = some (tableObj #[]) := by
  simp only [tabs, List.mem_cons, List.not_mem_nil, or_false] at ht
  rcases ht with rfl | rfl | rfl
  · exact X _ _ (by kernel_rfl)
  · exact X _ _ (by kernel_rfl)
  · exact X _ _ (by kernel_rfl)
theorem lawTop2 (km : ∀ B, Ok B → B.k72 = #[] → KeyMk B) {w : World} {s : Shared} {mg mb : Str → Option Value} {a : Addr} {vs : List Value} {xs : List Int} (X : (hz.heap_157 w.params).In s.heap) (g : s.heap.Ns mainGlobals mg) (b : s.heap.Ns builtinsNs mb) (lim : s.heap.NoLimit)
    (blt : ∀ x : Str, x ≠ "__name__" → mb x = bootBuiltins x) (bm : ∃ bm ob, mg "__builtins__" = some (.ref bm) ∧ bm ≠ builtinsNs ∧ s.heap.get? bm = some ob ∧ ob.cls = .type "module" ∧ ob.dict = some builtinsNs ∧ ob.data = .plain)
    (hg : s.gens = #[]) (hl : s.heap.get? a = some { cls := .type "list", data := .seq vs.toArray }) (hi : IntsAre vs xs) (hx : xs.length ≤ 63) :
    wpAny (model prg w) callerA (call (.ref 164) [.ref a]) (fun u s' => u = .bool true ∧ OldK s.heap s'.heap ∧ s'.os = s.os ∧ AllBare s'.gens) (fun _ _ => False) s := by
  have tt : ∀ t ∈ tabs, s.heap.get? t = some (tableObj #[]) := fun t ht => tab0 X ht
  have ok : Ok ⟨w, s.heap, s.os, mg, mb, #[]⟩ := ⟨X, g, b, lim, blt, by
    obtain ⟨bm, ob, b1, b2, b3, b4, b5, b6⟩ := bm
    refine ⟨bm, ob, b1, b2, fun ht => ?_, b3, b4, b5, b6⟩
    rw [tt bm ht] at b3
    cases b3; cases b4⟩
  have wd : Wd ⟨w, s.heap, s.os, mg, mb, #[]⟩ (fun a => if a ∈ tabs then none else s.heap.get? a) s := by
    refine ⟨fun a o e => ?_, fun a o e ht => ?_, fun a ht => if_pos ht, fun t ht => ⟨#[], tt t ?_, ?_, ?_⟩, rfl, ?_, tt 72 (by decide)⟩
    · split at e
      · cases e
      · exact e
    · exact (if_neg ht).trans e
    · simp only [tabs, List.mem_cons, List.not_mem_nil, or_false] at ht ⊢
      rcases ht with rfl | rfl <;> simp
    · exact trivial
    · intro p c' e; simp [codeAmong] at e
    · rw [hg]; exact AllBare.empty
  have hat : a ∉ tabs := fun ht => by
    rw [tt a ht] at hl
    cases hl
  have sp := spec164 ok wd (km _ ok rfl) hx (v := .ref a) ⟨vs, ⟨a, _, rfl, (if_neg hat).trans hl, 0, rfl⟩, LR.of_ints hi⟩
  have sp : wpAny (model prg w) callerA (call (.ref 164) [.ref a]) _ _ s := fun Γ p hΓ => sp Γ p ⟨hΓ.1, Nat.le_trans hΓ.2.1 (by decide), fun _ hl => (nomatch hl), fun _ hl => (nomatch hl), Nat.le_trans hΓ.2.2.2.2 (by decide)⟩
  refine wpAny_mono sp (fun u s' hh => ?_) fun _ _ x => x
  obtain ⟨e1, k', P', wd', kp⟩ := hh
  refine ⟨e1, ⟨fun b o e => ?_, fun b o e => ?_⟩, wd'.os, wd'.gb⟩
  · by_cases ht : b ∈ tabs
    · rw [tt b ht] at e
      cases e
      obtain ⟨ps, eps⟩ : ∃ ps, s'.heap.get? b = some (tableObj ps) := by
        simp only [tabs, List.mem_cons, List.not_mem_nil, or_false] at ht
        rcases ht with rfl | rfl | rfl
        · obtain ⟨ps, e, _⟩ := wd'.tb 58 (by simp); exact ⟨ps, e⟩
        · exact ⟨_, wd'.t72⟩
        · obtain ⟨ps, e, _⟩ := wd'.tb 154 (by simp); exact ⟨ps, e⟩
      refine .inr (.inl ⟨?_, rfl, #[], ps, rfl, by rw [eps]; simp [tableObj]⟩)
      simp only [tabs, List.mem_cons, List.not_mem_nil, or_false] at ht
      rcases ht with rfl | rfl | rfl
      · exact codeHd_table X (c := 62) (by kernel_rfl)
      · exact codeHd_table X (c := 76) (by kernel_rfl)
      · exact codeHd_table X (c := 158) (by kernel_rfl)
    · exact .inl (kp b o e ht)
  · by_cases ht : b ∈ tabs
    · exact wd'.tabAt ht
    · exact ⟨o, kp b o e ht⟩
theorem top2 : PySem.Challenge.rw_mj0128_01.Holds := hz (by
  k_fill
  intro w s₀ s₁ mg mb G y fa o pm cd doc dV kV ho hd hcd hD hmg hg args vals as L hpre hlay hrd hwl hlo
  have F := z_facts (K := hz.heap_157) (fun P => by kernel_rfl) y
  have KX : (hz.heap_157 w.params).In s₁.heap := InK.keeps w s₀.heap s₁.heap F.2.1 (Laid.keeps L)
  refine Ground.open G ?_
  intro T B D TE TW
  wrow_args hpre hlay hrd hwl hlo
  have hm : mg (Str.ofString "law") = some (.ref 164) := mg_of KX T.g (by kernel_rfl)
  have hfa : some (Value.ref fa) = some (.ref 164) := hmg.symm.trans hm
  obtain rfl : fa = 164 := Value.ref.inj (Option.some.inj hfa)
  rename_i xs _ _ _ _ _ _ _ l vs _ hL _ _ _ hI _ hc _
  refine wpAny_mono (lawTop2 (fun B ok k => keyMk ok k) KX T.g T.b T.nolimit T.builtins T.bmain hg (script_obj L hL) hI (by lia)) (fun u s' hh => ?_) fun _ _ x => x.elim
  obtain ⟨rfl, hO, hos, hgb⟩ := hh
  refine ⟨.inl ⟨_, _, [], rfl, fun _ => rfl, ReadsW.bool true, ?_, fun _ => ⟨List.nodup_nil, fun _ hm => (nomatch hm)⟩⟩, hO, hos, hgb⟩
  first | rfl | wrow_post)
end Mine
theorem PySem.Challenge.cw_mj0128_01_holds : PySem.Challenge.rw_mj0128_01.Holds := by
  exact Mine.top2
