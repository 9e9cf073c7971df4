import PyProof.Rows.All
import Wide.All
import OpenK.AllK
import Wide.FinOn
import Lean
import PySem.Challenge.RW_xo0013_01
open PySem PySem.W PyProof.Rows PySem.Calls
set_option maxRecDepth 100000
set_option Elab.async false
set_option linter.all false
namespace Mine
-- HeadX
set_option maxRecDepth 100000 in
set_option maxHeartbeats 8000000 in
open_top hd for PySem.Challenge.rw_xo0013_01
-- Base
noncomputable abbrev View := Addr → Option Obj
noncomputable def At (O : View) (a : Addr) (P : Obj → Prop) : Prop := ∃ o, O a = some o ∧ P o
noncomputable def Sub (O O' : View) : Prop := ∀ a o, O a = some o → O' a = some o
theorem Sub.refl (O : View) : Sub O O := fun _ _ e => e
theorem Sub.trans {O O' O'' : View} (h : Sub O O') (h' : Sub O' O'') : Sub O O'' := fun a o e => h' a o (h a o e)
theorem At.sub {O O' : View} {a : Addr} {P : Obj → Prop} (x : At O a P) (h : Sub O O') : At O' a P := let ⟨o, e, p⟩ := x; ⟨o, h a o e, p⟩
theorem At.mono {O : View} {a : Addr} {P P' : Obj → Prop} (x : At O a P) (h : ∀ o, P o → P' o) : At O a P' := let ⟨o, e, p⟩ := x; ⟨o, e, h o p⟩
noncomputable def PL (vs : List Value) (o : Obj) : Prop := ∃ n, o = { cls := .type "list", data := .seq vs.toArray n }
noncomputable def PT (vs : List Value) (o : Obj) : Prop := o.cls = .type "tuple" ∧ ∃ n, o.data = .seq vs.toArray n
noncomputable def PD (prog : Program) (w : World) (kvs : List (Str × Value)) (o : Obj) : Prop := o.IsDictOf (strKind prog w) kvs
noncomputable def PN (m : Str → Option Value) (o : Obj) : Prop := ∃ es ep, o.data = .dict es ep ∧ StrKeys es ∧ ∀ name, nsFind es name = m name
noncomputable abbrev Led := List (Addr × (Obj → Prop))
/-- what stands in the second heap alone -/
noncomputable def fresh (h h' : Heap) : View := fun a => match h.get? a with | some _ => none | none => h'.get? a
theorem fresh_old {h h' : Heap} {a : Addr} {o : Obj} (e : fresh h h' a = some o) : h.get? a = none ∧ h'.get? a = some o := by
  unfold fresh at e
  split at e
  · cases e
  · rename_i q; exact ⟨q, e⟩
theorem fresh_intro {h h' : Heap} {a : Addr} {o : Obj} (n : h.get? a = none) (e : h'.get? a = some o) : fresh h h' a = some o := by
  unfold fresh; rw [n]; exact e

noncomputable def joinV (V F : View) : View := fun a => match V a with | some o => some o | none => F a
theorem sub_joinV (V F : View) : Sub V (joinV V F) := fun a o e => by unfold joinV; rw [e]
theorem joinV_sub {V F G : View} (h : Sub V G) (h' : Sub F G) : Sub (joinV V F) G := fun a o e => by
  unfold joinV at e
  split at e
  · rename_i q; cases e; exact h _ _ q
  · exact h' _ _ e
theorem joinV_or {V F : View} {a : Addr} {o : Obj} (e : joinV V F a = some o) : V a = some o ∨ (V a = none ∧ F a = some o) := by
  unfold joinV at e
  split at e
  · rename_i q; cases e; exact .inl q
  · rename_i q; exact .inr ⟨q, e⟩
theorem joinV_none {V F : View} {a : Addr} (e : V a = none) (e' : F a = none) : joinV V F a = none := by unfold joinV; rw [e]; exact e'
theorem sub_joinR {V F G : View} (h : Sub V G) (h' : Sub F G) : Sub F (joinV V F) := fun a o e => by
  unfold joinV
  cases q : V a with
  | none => exact e
  | some o' => have := h _ _ q; have := h' _ _ e; simp_all
/-- the frame: locals m at L, cells cl with values cv; old objects O, new objects V, both as they stand; the ledger M of objects that may still change -/
structure St (O V : View) (L : Addr) (m : Str → Option Value) (cl : List (Str × Addr)) (cv : Str → Option Value) (M : Led) (h : Heap) : Prop where
  ns : h.Ns L m
  keepO : Sub O h.get?
  keepV : Sub V h.get?
  apart : ∀ a o, V a = some o → O a = none
  off : O L = none ∧ V L = none
  cell : ∀ p ∈ cl, h.IsCell p.2 (cv p.1)
  coff : ∀ p ∈ cl, O p.2 = none ∧ V p.2 = none ∧ p.2 ≠ L
  cinj : ∀ p ∈ cl, ∀ q ∈ cl, p.2 = q.2 ↔ p.1 = q.1
  led : ∀ p ∈ M, At h.get? p.1 p.2
  moff : ∀ p ∈ M, O p.1 = none ∧ V p.1 = none ∧ p.1 ≠ L ∧ p.1 ∉ cl.map (·.2)
  nd : (M.map (·.1)).Nodup
section
variable {O V V' : View} {L : Addr} {m m' : Str → Option Value} {cl : List (Str × Addr)} {cv : Str → Option Value} {M : Led} {h h' : Heap}
theorem St.getO (S : St O V L m cl cv M h) {a : Addr} {P : Obj → Prop} (x : At O a P) : At h.get? a P := x.sub S.keepO
theorem St.getV (S : St O V L m cl cv M h) {a : Addr} {P : Obj → Prop} (x : At V a P) : At h.get? a P := x.sub S.keepV
theorem St.getM (S : St O V L m cl cv M h) {a : Addr} {P : Obj → Prop} (x : (a, P) ∈ M) : At h.get? a P := S.led _ x
theorem St.grown (S : St O V L m cl cv M h) (k : Sub h.get? h'.get?) : St O V L m cl cv M h' where
  ns := S.ns.keeps k
  keepO := S.keepO.trans k
  keepV := S.keepV.trans k
  apart := S.apart
  off := S.off
  cell := fun p hp => let ⟨o, a, b⟩ := S.cell p hp; ⟨o, k _ _ a, b⟩
  coff := S.coff
  cinj := S.cinj
  led := fun p hp => (S.led p hp).sub k
  moff := S.moff
  nd := S.nd
/-- the new objects that stand in a heap are taken up as they stand -/
theorem St.take (S : St O V L m cl cv M h) {F : View} (hF : Sub F h.get?) (ho : ∀ a o, F a = some o → O a = none) (hL : F L = none) (hc : ∀ p ∈ cl, F p.2 = none) (hM : ∀ p ∈ M, F p.1 = none) : St O (joinV V F) L m cl cv M h where
  ns := S.ns
  keepO := S.keepO
  keepV := joinV_sub S.keepV hF
  apart := fun a o e => (joinV_or e).elim (S.apart a o) fun e => ho a o e.2
  off := ⟨S.off.1, joinV_none S.off.2 hL⟩
  cell := S.cell
  coff := fun p hp => ⟨(S.coff p hp).1, joinV_none (S.coff p hp).2.1 (hc p hp), (S.coff p hp).2.2⟩
  cinj := S.cinj
  led := S.led
  moff := fun p hp => ⟨(S.moff p hp).1, joinV_none (S.moff p hp).2.1 (hM p hp), (S.moff p hp).2.2⟩
  nd := S.nd

theorem fresh_none {a : Addr} {o : Obj} (e : h.get? a = some o) : fresh h h' a = none := by unfold fresh; rw [e]
/-- behind a call that has changed no object -/
theorem St.called (S : St O V L m cl cv M h) (k : Sub h.get? h'.get?) : St O (joinV V (fresh h h')) L m cl cv M h' ∧ Sub V (joinV V (fresh h h')) ∧ Sub (fresh h h') (joinV V (fresh h h')) := by
  have hF : Sub (fresh h h') h'.get? := fun a o e => (fresh_old e).2
  refine ⟨(S.grown k).take hF ?_ ?_ ?_ ?_, sub_joinV _ _, sub_joinR (S.keepV.trans k) hF⟩
  · intro a o e
    cases q : O a with
    | none => rfl
    | some o' => have := S.keepO _ _ q; rw [(fresh_old e).1] at this; cases this
  · obtain ⟨o, _, _, e, _⟩ := S.ns; exact fresh_none e
  · intro p hp; obtain ⟨o, e, _⟩ := S.cell p hp; exact fresh_none e
  · intro p hp; obtain ⟨o, e, _⟩ := S.led p hp; exact fresh_none e

theorem St.setL (S : St O V L m cl cv M h) (hn : h'.Ns L m') (hs : Heap.SameBut L h h') : St O V L m' cl cv M h' where
  ns := hn
  keepO := fun a o e => (hs.2 a (fun q => by rw [q, S.off.1] at e; cases e)).trans (S.keepO a o e)
  keepV := fun a o e => (hs.2 a (fun q => by rw [q, S.off.2] at e; cases e)).trans (S.keepV a o e)
  apart := S.apart
  off := S.off
  cell := fun p hp => let ⟨o, a, b⟩ := S.cell p hp; ⟨o, (hs.2 p.2 (S.coff p hp).2.2).trans a, b⟩
  coff := S.coff
  cinj := S.cinj
  led := fun p hp => let ⟨o, a, b⟩ := S.led p hp; ⟨o, (hs.2 p.1 (S.moff p hp).2.2.1).trans a, b⟩
  moff := S.moff
  nd := S.nd

theorem St.setC (S : St O V L m cl cv M h) {x : Str} {c : Addr} {v : Value} (hc : (x, c) ∈ cl) (hv : h'.IsCell c (some v)) (hs : Heap.SameBut c h h') :
    St O V L m cl (fun y => if y = x then some v else cv y) M h' where
  ns := S.ns.sameBut hs (Ne.symm (S.coff _ hc).2.2)
  keepO := fun a o e => (hs.2 a (fun q => by rw [q, (S.coff _ hc).1] at e; cases e)).trans (S.keepO a o e)
  keepV := fun a o e => (hs.2 a (fun q => by rw [q, (S.coff _ hc).2.1] at e; cases e)).trans (S.keepV a o e)
  apart := S.apart
  off := S.off
  cell := fun p hp => by
    by_cases q : p.1 = x
    · have e : p.2 = c := (S.cinj p hp (x, c) hc).mpr q
      rw [if_pos q, e]; exact hv
    · rw [if_neg q]
      obtain ⟨o, a, b⟩ := S.cell p hp
      exact ⟨o, (hs.2 p.2 (fun r => q ((S.cinj p hp (x, c) hc).mp r))).trans a, b⟩
  coff := S.coff
  cinj := S.cinj
  led := fun p hp => let ⟨o, a, b⟩ := S.led p hp; ⟨o, (hs.2 p.1 (fun r => (S.moff p hp).2.2.2 (r ▸ List.mem_map_of_mem hc))).trans a, b⟩
  moff := S.moff
  nd := S.nd

theorem St.newest (S : St O V L m cl cv M h) : O h.objs.size = none ∧ V h.objs.size = none := by
  constructor
  · cases e : O h.objs.size with
    | none => rfl
    | some o' => exact absurd (Heap.lt_size (S.keepO _ _ e)) (Nat.lt_irrefl _)
  · cases e : V h.objs.size with
    | none => rfl
    | some o' => exact absurd (Heap.lt_size (S.keepV _ _ e)) (Nat.lt_irrefl _)
/-- a new object under an address that was free, put into the ledger -/
theorem St.add (S : St O V L m cl cv M h) {a : Addr} {P : Obj → Prop} (hn : h.get? a = none) (k : Sub h.get? h'.get?) (x : At h'.get? a P) : St O V L m cl cv ((a, P) :: M) h' := by
  have S' := S.grown k
  have no : ∀ {b : Addr} {o : Obj}, h.get? b = some o → b ≠ a := fun e q => by rw [q, hn] at e; cases e
  refine ⟨S'.ns, S'.keepO, S'.keepV, S'.apart, S'.off, S'.cell, S'.coff, S'.cinj, ?_, ?_, ?_⟩
  · intro p hp'
    rcases List.mem_cons.mp hp' with rfl | hp'
    · exact x
    · exact S'.led p hp'
  · intro p hp'
    rcases List.mem_cons.mp hp' with rfl | hp'
    · refine ⟨?_, ?_, ?_, ?_⟩
      · cases e : O a with
        | none => rfl
        | some o => exact absurd rfl (no (S.keepO _ _ e))
      · cases e : V a with
        | none => rfl
        | some o => exact absurd rfl (no (S.keepV _ _ e))
      · obtain ⟨o, _, _, e, _⟩ := S.ns; exact Ne.symm (no e)
      · intro hm
        obtain ⟨q, hq, e⟩ := List.mem_map.mp hm
        obtain ⟨o', b, _⟩ := S.cell q hq
        exact no b e
    · exact S.moff p hp'
  · refine List.nodup_cons.mpr ⟨fun hm => ?_, S.nd⟩
    obtain ⟨q, hq, e⟩ := List.mem_map.mp hm
    obtain ⟨o', b, _⟩ := S.led q hq
    exact no b e
theorem St.alloc (S : St O V L m cl cv M h) (o : Obj) {P : Obj → Prop} (hp : P o) (hfree : o.isFreed = false := by rfl) : St O V L m cl cv ((h.objs.size, P) :: M) (h.push o) := by
  refine S.add ?_ (fun b o' e => Heap.get?_push_of_some _ e) ⟨o, Heap.get?_push_size _ hfree, hp⟩
  cases e : h.get? h.objs.size with
  | none => rfl
  | some o' => exact absurd (Heap.lt_size e) (Nat.lt_irrefl _)
/-- one of the ledger turns -/
theorem St.turn (S : St O V L m cl cv M h) {a : Addr} {P P' : Obj → Prop} {pre post : Led} (hM : M = pre ++ (a, P) :: post) (x : At h'.get? a P') (hs : Heap.SameBut a h h') :
    St O V L m cl cv (pre ++ (a, P') :: post) h' := by
  subst hM
  have hmem : (a, P) ∈ pre ++ (a, P) :: post := List.mem_append_right _ (.head _)
  have ho := S.moff _ hmem
  have hnd := S.nd
  rw [List.map_append, List.map_cons] at hnd
  have hne : ∀ p, p ∈ pre ∨ p ∈ post → p.1 ≠ a := by
    intro p hp e
    rw [List.nodup_append] at hnd
    rcases hp with hp | hp
    · exact hnd.2.2 p.1 (List.mem_map_of_mem hp) a (.head _) e
    · exact (List.nodup_cons.mp hnd.2.1).1 (e ▸ List.mem_map_of_mem (f := (·.1)) hp)
  refine ⟨S.ns.sameBut hs (Ne.symm ho.2.2.1), ?_, ?_, S.apart, S.off, ?_, S.coff, S.cinj, ?_, ?_, ?_⟩
  · intro b o e
    exact (hs.2 b (fun q => by rw [q, ho.1] at e; cases e)).trans (S.keepO b o e)
  · intro b o e
    exact (hs.2 b (fun q => by rw [q, ho.2.1] at e; cases e)).trans (S.keepV b o e)
  · intro p hp
    obtain ⟨o, e, r⟩ := S.cell p hp
    exact ⟨o, (hs.2 p.2 (fun q => ho.2.2.2 (q ▸ List.mem_map_of_mem hp))).trans e, r⟩
  · intro p hp
    rcases List.mem_append.mp hp with hp | hp
    · obtain ⟨o, e, r⟩ := S.led p (List.mem_append_left _ hp)
      exact ⟨o, (hs.2 p.1 (hne p (.inl hp))).trans e, r⟩
    · rcases List.mem_cons.mp hp with rfl | hp
      · exact x
      · obtain ⟨o, e, r⟩ := S.led p (List.mem_append_right _ (.tail _ hp))
        exact ⟨o, (hs.2 p.1 (hne p (.inr hp))).trans e, r⟩
  · intro p hp
    rcases List.mem_append.mp hp with hp | hp
    · exact S.moff p (List.mem_append_left _ hp)
    · rcases List.mem_cons.mp hp with rfl | hp
      · exact ho
      · exact S.moff p (List.mem_append_right _ (.tail _ hp))
  · rw [List.map_append, List.map_cons]; exact hnd

theorem St.drop (S : St O V L m cl cv M h) {pre post : Led} {a : Addr} {P : Obj → Prop} (hM : M = pre ++ (a, P) :: post) : St O V L m cl cv (pre ++ post) h := by
  subst hM
  have hnd := S.nd
  rw [List.map_append, List.map_cons] at hnd
  refine ⟨S.ns, S.keepO, S.keepV, S.apart, S.off, S.cell, S.coff, S.cinj, ?_, ?_, ?_⟩
  · exact fun p hp => S.led p ((List.mem_append.mp hp).elim (List.mem_append_left _) fun hp => List.mem_append_right _ (.tail _ hp))
  · exact fun p hp => S.moff p ((List.mem_append.mp hp).elim (List.mem_append_left _) fun hp => List.mem_append_right _ (.tail _ hp))
  · rw [List.map_append]
    exact hnd.sublist ((List.Sublist.refl _).append (List.sublist_cons_self _ _))
/-- a part of the ledger is taken as it stands -/
theorem St.freeze (S : St O V L m cl cv M h) {pre post : Led} {a : Addr} {P : Obj → Prop} (hM : M = pre ++ (a, P) :: post) :
    ∃ V', St O V' L m cl cv (pre ++ post) h ∧ Sub V V' ∧ At V' a P := by
  have hmem : (a, P) ∈ M := hM ▸ List.mem_append_right _ (.head _)
  obtain ⟨o, e, p⟩ := S.led _ hmem
  have ho := S.moff _ hmem
  have hnd := S.nd
  rw [hM, List.map_append, List.map_cons] at hnd
  have hne : ∀ p, p ∈ pre ++ post → p.1 ≠ a := by
    intro p hp e
    rw [List.nodup_append] at hnd
    rcases List.mem_append.mp hp with hp | hp
    · exact hnd.2.2 p.1 (List.mem_map_of_mem hp) a (.head _) e
    · exact (List.nodup_cons.mp hnd.2.1).1 (e ▸ List.mem_map_of_mem (f := (·.1)) hp)
  have hF : Sub (fun b => if b = a then some o else none) h.get? := fun b o' q => by
    by_cases z : b = a
    · simp only [z, if_true] at q; cases q; rw [z]; exact e
    · simp only [if_neg z] at q; cases q
  refine ⟨joinV V (fun b => if b = a then some o else none), (S.drop hM).take hF ?_ ?_ ?_ ?_, sub_joinV _ _, o, ?_, p⟩
  · intro b o' q
    by_cases z : b = a
    · rw [z]; exact ho.1
    · simp only [if_neg z] at q; cases q
  · exact if_neg (Ne.symm ho.2.2.1)
  · intro p hp; exact if_neg fun (z : p.2 = a) => ho.2.2.2 (z ▸ List.mem_map_of_mem hp)
  · intro p hp; exact if_neg (hne p hp)
  · unfold joinV; rw [ho.2.1]; exact if_pos rfl

theorem PN.ns {o : Obj} {a : Addr} (x : PN m o) (e : h.get? a = some o) : h.Ns a m := let ⟨es, ep, hd, r⟩ := x; ⟨o, es, ep, e, hd, r⟩
theorem ns_at (x : h.Ns L m) : At h.get? L (PN m) := let ⟨o, es, ep, e, hd, r⟩ := x; ⟨o, e, es, ep, hd, r⟩
/-- what the frame holds new, seen from the heap at its start -/
theorem St.new (S : St O V L m cl cv M h') (hO : Sub h.get? O) : Sub V (fresh h h') := fun a o e => by
  refine fresh_intro ?_ (S.keepV _ _ e)
  cases q : h.get? a with
  | none => rfl
  | some o' => have := hO _ _ q; rw [S.apart _ _ e] at this; cases this
theorem St.newM (S : St O V L m cl cv M h') (hO : Sub h.get? O) {a : Addr} {P : Obj → Prop} (x : (a, P) ∈ M) : At (fresh h h') a P := by
  obtain ⟨o, e, p⟩ := S.led _ x
  refine ⟨o, fresh_intro ?_ e, p⟩
  cases q : h.get? a with
  | none => rfl
  | some o' => have := hO _ _ q; rw [(S.moff _ x).1] at this; cases this
end
-- Enter
structure Cx (w : World) (mean : ExcName → Option Value) (mg mb : Str → Option Value) (base : Heap) : Prop where
  X : (hd.heap_39 w.params).In base
  T : Top hd.view_39 (looseW hd.view_39 [Str.ofString "IPV4_RE"]) mean mg mb base
/-- room for k calls, one in the other -/
structure Room (A : Around) (k : Nat) : Prop where
  h : A.handled = none
  d : A.depth + k < recursionLimit
  u : A.units + 8 * k + 100 < cLine

theorem Room.deeper {A : Around} {k : Nat} {env : Env} (R : Room A (k + 1)) : Room (A.deeper env) k :=
  ⟨R.h, by have := R.d; show A.depth + 1 + k < _; omega, by have := R.u; show A.units + 3 + 8 * k + 100 < _; omega⟩
theorem Room.less {A : Around} {k j : Nat} (R : Room A k) (h : j ≤ k) : Room A j := ⟨R.h, by have := R.d; omega, by have := R.u; omega⟩
/-- the call gives a value as told, and leaves the heap's objects alone -/
noncomputable abbrev Does (prog : Program) (w : World) (A : Around) (t : Sem Value) (Post : View → Value → Prop) (s : Shared) : Prop :=
  ∀ E, wpAny (model prog w) A t (fun v s' => Keeps s s' ∧ Post (fresh s.heap s'.heap) v) E s
section
variable {prog : Program} {w : World} {mean : ExcName → Option Value} {mg mb : Str → Option Value} {base : Heap} {A : Around} {s : Shared}
theorem pairwise_iff {l : List (Str × Addr)} (h1 : l.Pairwise fun x y => x.2 ≠ y.2) (h2 : (l.map (·.1)).Nodup) : ∀ p ∈ l, ∀ q ∈ l, p.2 = q.2 ↔ p.1 = q.1 := by
  induction l with
  | nil => exact fun _ h => nomatch h
  | cons x r ih =>
    obtain ⟨a, b⟩ := List.pairwise_cons.mp h1
    obtain ⟨c, d⟩ := List.nodup_cons.mp h2
    intro p hp q hq
    rcases List.mem_cons.mp hp with e1 | hp <;> rcases List.mem_cons.mp hq with e2 | hq
    · rw [e1, e2]; simp
    · rw [e1]
      exact ⟨fun e => absurd e (a q hq), fun e => absurd (show x.1 ∈ r.map (·.1) from e ▸ List.mem_map_of_mem (f := (·.1)) hq) c⟩
    · rw [e2]
      exact ⟨fun e => absurd e.symm (a p hp), fun e => absurd (show x.1 ∈ r.map (·.1) from e ▸ List.mem_map_of_mem (f := (·.1)) hp) c⟩
    · exact ih b d p hp q hq
theorem enter {name : Str} {params : Arguments} {body : List Stmt} {scope : Scope} {dV kV doc pm cdv ct oc : Value} {an od : Option Addr} {osl : Array (Option Value)} {f : Addr} {args : List Value}
    {binds : List (Str × Value)} {m cv : Str → Option Value} {Post : View → Value → Prop} {k : Nat}
    (C : Cx w mean mg mb base) (hb : Sub base.get? s.heap.get?) (R : Room A k)
    (ho : (hd.heap_39 w.params).lookup f = some ⟨oc, od, .func (fnX name name params body scope [] dV kV doc pm an cdv ct), osl⟩) (hcd : codeIn (hd.heap_39 w.params) cdv name = true)
    (hbind : bindArgs (fnX name name params body scope [] dV kV doc pm an cdv ct) ⟨args, []⟩ = pure binds)
    (hkind : (binds.all fun y => scope.names.lookup y.1 == some .local || scope.names.lookup y.1 == some .cell) = true)
    (hnd : ((cellsFrom 0 scope.names []).map (·.1)).Nodup)
    (hm : ∀ L, bindL (envOfC name scope L f cdv).kindOf binds (fun _ => none) = m) (hc : ∀ L, bindC (envOfC name scope L f cdv).kindOf binds (fun _ => none) = cv)
    (h : ∀ L h₁ tk, St s.heap.get? (fun _ => none) L m (cellsFrom (L + 1) scope.names []) cv [] h₁ →
      wpAny (model prog w) (A.deeper (envOfC name scope L f cdv)) (execs body (envOfC name scope L f cdv))
        (fun fl s' => Keeps s s' ∧ Post (fresh s.heap s'.heap) (match fl with | .ret v => v | _ => .none)) (fun _ _ => False) { s with heap := h₁, toks := tk })
    (hco : scope.isCoroutine = false) (hgen : scope.isGenerator = false) (hk : scope.kind = .function) :
    Does prog w A (call (.ref f) args) Post s := by
  intro E
  have hX : (hd.heap_39 w.params).In s.heap := fun a o e => hb _ _ (C.X a o e)
  refine wpAny_call (codeAny_call_function (by have := R.d; omega) (hX _ _ ho) rfl hco hgen rfl (codeRec_of hX hcd) ?_)
  rw [hbind]
  refine wpAny_pure (wpAny_newFunctionEnv_cells hk (kindsX hkind _) fun env' he s' x => ?_)
  subst he
  have hk₁ := x.toInCall.keep
  refine ⟨(C.T.nolimit.keeps hb).keeps hk₁, codeAny_func ?_⟩
  obtain ⟨h₁, tk, rfl, _⟩ := x.done
  have hmem : ∀ n c, (n, c) ∈ cellsFrom (s.heap.objs.size + 1) scope.names [] → (cellsFrom (s.heap.objs.size + 1) scope.names []).lookup n = some c := fun n c hm => lookup_of_mem_nodup (cellsFrom_names scope.names 0 (s.heap.objs.size + 1) [] [] rfl ▸ hnd) hm
  have ab : ∀ p ∈ cellsFrom (s.heap.objs.size + 1) scope.names [], s.heap.get? p.2 = none ∧ p.2 ≠ s.heap.objs.size := fun p hp => by
    have hlt : s.heap.objs.size < p.2 := x.above p.1 p.2 hp
    refine ⟨?_, Nat.ne_of_gt hlt⟩
    cases e : s.heap.get? p.2 with
    | none => rfl
    | some o => exact absurd (Heap.lt_size e) (Nat.not_lt.mpr (Nat.le_of_lt hlt))
  have S : St s.heap.get? (fun _ => none) s.heap.objs.size m (cellsFrom (s.heap.objs.size + 1) scope.names []) cv [] h₁ := by
    refine ⟨hm _ ▸ x.toInCall.ns, hk₁, (fun _ _ e => nomatch e), (fun _ _ e => nomatch e), ⟨?_, rfl⟩, fun p hp => hc s.heap.objs.size ▸ x.cell _ _ (hmem _ _ hp), fun p hp => ⟨(ab p hp).1, rfl, (ab p hp).2⟩, pairwise_iff x.apart (cellsFrom_names scope.names 0 (s.heap.objs.size + 1) [] [] rfl ▸ hnd), (fun _ h => nomatch h), (fun _ h => nomatch h), List.nodup_nil⟩
    cases e : s.heap.get? s.heap.objs.size with
    | none => rfl
    | some o => exact absurd (Heap.lt_size e) (Nat.lt_irrefl _)
  exact wpAny_mono (h _ h₁ tk S) (fun fl s' hl => hl) fun _ _ f => f.elim
theorem St.keeps {O V : View} {L : Addr} {m : Str → Option Value} {cl : List (Str × Addr)} {cv : Str → Option Value} {M : Led} {h' : Heap} {tk : Nat} (S : St O V L m cl cv M h') (hs : Sub s.heap.get? O) : Keeps s { s with heap := h', toks := tk } :=
  ⟨h', tk, rfl, fun b o e => S.keepO b o (hs b o e)⟩
theorem use {t : Sem Value} {Post : View → Value → Prop} {O V : View} {L : Addr} {m : Str → Option Value} {cl : List (Str × Addr)} {cv : Str → Option Value} {M : Led} {Q E : Value → Shared → Prop}
    (D : Does prog w A t Post s) (S : St O V L m cl cv M s.heap)
    (h : ∀ v h' tk V', Sub V V' → St O V' L m cl cv M h' → (∃ F, Sub F V' ∧ Post F v) → Q v { s with heap := h', toks := tk }) : wpAny (model prog w) A t Q E s := by
  refine wpAny_mono (D E) (fun v s' p => ?_) fun _ _ e => e
  obtain ⟨⟨h', tk, rfl, k⟩, p⟩ := p
  obtain ⟨S', s1, s2⟩ := S.called (h' := h') k
  exact h v h' tk _ s1 S' ⟨_, s2, p⟩
end
section
variable {Mo : Model} {A : Around} {E : Value → Shared → Prop} {s : Shared} {O V : View} {L : Addr} {m : Str → Option Value} {cl : List (Str × Addr)} {cv : Str → Option Value} {M : Led} {env : Env}
  {x : Str} {pos : Pos} {v : Value} {w : World} {mean : ExcName → Option Value} {mg mb : Str → Option Value} {base : Heap}
theorem ldS {Q : Value → Shared → Prop} (S : St O V L m cl cv M s.heap) (hL : env.locals = L) (hk : env.scope.kind = .function) (hx : env.kindOf x = some .local) (hv : m x = some v) (h : Q v s)
    (hd : (x == ("__debug__" : Str)) = false := by decide) :
    wpAny Mo A (eval (.Name x pos) env) Q E s := wpAny_Name (wpAny_loadName_local hk hx (hL ▸ S.ns) hv h) hd
theorem lnS {Q : Value → Shared → Prop} (S : St O V L m cl cv M s.heap) (hL : env.locals = L) (hk : env.scope.kind = .function) (hx : env.kindOf x = some .local) (hv : m x = some v) (h : Q v s) :
    wpAny Mo A (loadName env x) Q E s := wpAny_loadName_local hk hx (hL ▸ S.ns) hv h
theorem ldC {c : Addr} {Q : Value → Shared → Prop} (S : St O V L m cl cv M s.heap) (hk : env.scope.kind = .function) (hx : env.kindOf x = some .cell) (hc : env.cells.lookup x = some c) (hc' : cl.lookup x = some c) (hv : cv x = some v) (h : Q v s)
    (hd : (x == ("__debug__" : Str)) = false := by decide) :
    wpAny Mo A (eval (.Name x pos) env) Q E s := wpAny_Name (wpAny_loadName_cell hk hx hc (hv ▸ S.cell (x, c) (mem_of_lookup hc')) h) hd
theorem lnC {c : Addr} {Q : Value → Shared → Prop} (S : St O V L m cl cv M s.heap) (hk : env.scope.kind = .function) (hx : env.kindOf x = some .cell) (hc : env.cells.lookup x = some c) (hc' : cl.lookup x = some c) (hv : cv x = some v) (h : Q v s) :
    wpAny Mo A (loadName env x) Q E s := wpAny_loadName_cell hk hx hc (hv ▸ S.cell (x, c) (mem_of_lookup hc')) h
theorem stS {Q : Unit → Shared → Prop} (S : St O V L m cl cv M s.heap) (hL : env.locals = L) (hk : env.scope.kind = .function) (hx : env.kindOf x = some .local)
    (h : ∀ h', St O V L (fun y => if y = x then some v else m y) cl cv M h' → Q () { s with heap := h', toks := s.toks + 1 }) :
    wpAny Mo A (storeName env x v) Q E s := by
  subst hL
  exact wpAny_storeName_local hx S.ns (fun h' hn hs => h h' (S.setL hn hs)) (by rw [hk]; rfl)
theorem stC {c : Addr} {Q : Unit → Shared → Prop} (S : St O V L m cl cv M s.heap) (hk : env.scope.kind = .function) (hx : env.kindOf x = some .cell) (hc : env.cells.lookup x = some c) (hc' : cl.lookup x = some c)
    (h : ∀ h', St O V L m cl (fun y => if y = x then some v else cv y) M h' → Q () { s with heap := h' }) :
    wpAny Mo A (storeName env x v) Q E s :=
  wpAny_storeName_cell hk hx hc (S.cell (x, c) (mem_of_lookup hc')) fun h' hv hs => h h' (S.setC (mem_of_lookup hc') hv hs)
theorem ldG {Q : Value → Shared → Prop} (C : Cx w mean mg mb base) (S : St O V L m cl cv M s.heap) (hb : Sub base.get? O) (hk : env.scope.kind = .function) (hg : env.globals = mainGlobals) (hx : env.kindOf x = some .globalImplicit)
    (e : nsIn (hd.heap_39 w.params) mainGlobals x = some (some v)) (h : Q v s) (hd : (x == ("__debug__" : Str)) = false := by decide) :
    wpAny Mo A (eval (.Name x pos) env) Q E s :=
  Name_function_global hk hx (loadGlobal_global (env := env) (hg ▸ C.T.g.keeps (hb.trans S.keepO)) (mg_of C.X C.T.g e) h) hd
theorem ldB {Q : Value → Shared → Prop} (C : Cx w mean mg mb base) (S : St O V L m cl cv M s.heap) (hb : Sub base.get? O) (hk : env.scope.kind = .function) (hg : env.globals = mainGlobals) (hbu : env.builtins = builtinsNs) (hx : env.kindOf x = some .globalImplicit)
    (e : nsIn (hd.heap_39 w.params) mainGlobals x = some none) (hv : bootBuiltins x = some v) (hn : x ≠ "__name__") (h : Q v s) (hd : (x == ("__debug__" : Str)) = false := by decide) :
    wpAny Mo A (eval (.Name x pos) env) Q E s :=
  Name_function_global hk hx (loadGlobal_builtin (env := env) (hg ▸ C.T.g.keeps (hb.trans S.keepO)) (mg_none_of C.X C.T.g e) (hbu ▸ C.T.b.keeps (hb.trans S.keepO)) ((C.T.builtins x hn).trans hv) h) hd
end
-- Loop
/-- the iterator's own objects, as they stand in a heap -/
noncomputable def own (hb : Heap) (wr : List Addr) : Led := wr.map fun b => (b, fun o => hb.get? b = some o)
theorem own_fst (hb : Heap) (wr : List Addr) : (own hb wr).map (·.1) = wr := by
  unfold own; rw [List.map_map]
  show wr.map id = wr
  exact List.map_id _
section
variable {O V V' : View} {L : Addr} {m m' : Str → Option Value} {cl : List (Str × Addr)} {cv cv' : Str → Option Value} {M M' : Led} {h h' : Heap} {wr : List Addr}
theorem St.addOwn (S : St O V L m cl cv M h) (k : ∀ b o, b ∉ wr → h.get? b = some o → h'.get? b = some o) (hnd : wr.Nodup)
    (hd : ∀ b ∈ wr, O b = none ∧ V b = none ∧ b ≠ L ∧ b ∉ cl.map (·.2) ∧ b ∉ M.map (·.1)) (hl : ∀ b ∈ wr, ∃ o, h'.get? b = some o) : St O V L m cl cv (own h' wr ++ M) h' where
  ns := S.ns.at' fun o e => k L o (fun q => (hd L q).2.2.1 rfl) e
  keepO := fun a o e => k a o (fun q => by rw [(hd a q).1] at e; cases e) (S.keepO a o e)
  keepV := fun a o e => k a o (fun q => by rw [(hd a q).2.1] at e; cases e) (S.keepV a o e)
  apart := S.apart
  off := S.off
  cell := fun p hp => let ⟨o, a, b⟩ := S.cell p hp; ⟨o, k _ _ (fun q => (hd _ q).2.2.2.1 (List.mem_map_of_mem hp)) a, b⟩
  coff := S.coff
  cinj := S.cinj
  led := fun p hp => by
    rcases List.mem_append.mp hp with hp | hp
    · obtain ⟨b, hb, rfl⟩ := List.mem_map.mp hp
      obtain ⟨o, e⟩ := hl b hb
      exact ⟨o, e, e⟩
    · obtain ⟨o, e, q⟩ := S.led p hp
      exact ⟨o, k _ _ (fun q => (hd _ q).2.2.2.2 (List.mem_map_of_mem hp)) e, q⟩
  moff := fun p hp => by
    rcases List.mem_append.mp hp with hp | hp
    · obtain ⟨b, hb, rfl⟩ := List.mem_map.mp hp
      exact ⟨(hd b hb).1, (hd b hb).2.1, (hd b hb).2.2.1, (hd b hb).2.2.2.1⟩
    · exact S.moff p hp
  nd := by
    rw [List.map_append, own_fst, List.nodup_append]
    exact ⟨hnd, S.nd, fun a ha b hb e => (hd a ha).2.2.2.2 (e ▸ hb)⟩
theorem St.dropOwn {hb : Heap} (S : St O V L m cl cv (own hb wr ++ M) h) : St O V L m cl cv M h := by
  have hnd := S.nd
  rw [List.map_append] at hnd
  exact ⟨S.ns, S.keepO, S.keepV, S.apart, S.off, S.cell, S.coff, S.cinj, fun p hp => S.led p (List.mem_append_right _ hp), fun p hp => S.moff p (List.mem_append_right _ hp), (List.nodup_append.mp hnd).2.1⟩
theorem St.own_get {hb : Heap} (S : St O V L m cl cv (own hb wr ++ M) h) {b : Addr} (hm : b ∈ wr) {o : Obj} (e : hb.get? b = some o) : h.get? b = some o := by
  obtain ⟨o', e', q⟩ := S.led (b, fun o => hb.get? b = some o) (List.mem_append_left _ (List.mem_map.mpr ⟨b, hm, rfl⟩))
  have : o' = o := Option.some.inj (q.symm.trans e)
  exact this ▸ e'
theorem St.ownOff {hb : Heap} (S : St O V L m cl cv (own hb wr ++ M) h) : ∀ b ∈ wr, O b = none ∧ V b = none ∧ b ≠ L ∧ b ∉ cl.map (·.2) ∧ b ∉ M.map (·.1) := fun b hm => by
  have := S.moff (b, fun o => hb.get? b = some o) (List.mem_append_left _ (List.mem_map.mpr ⟨b, hm, rfl⟩))
  refine ⟨this.1, this.2.1, this.2.2.1, this.2.2.2, fun q => ?_⟩
  have hnd := S.nd
  rw [List.map_append, own_fst, List.nodup_append] at hnd
  exact hnd.2.2 b hm b q rfl
theorem St.freshOff (S : St O V L m cl cv M h) {b : Addr} (e : h.get? b = none) : O b = none ∧ V b = none ∧ b ≠ L ∧ b ∉ cl.map (·.2) ∧ b ∉ M.map (·.1) := by
  have no : ∀ {c : Addr} {o : Obj}, h.get? c = some o → c ≠ b := fun e' q => by rw [q, e] at e'; cases e'
  refine ⟨?_, ?_, ?_, ?_, ?_⟩
  · cases q : O b with
    | none => rfl
    | some o => exact absurd rfl (no (S.keepO _ _ q))
  · cases q : V b with
    | none => rfl
    | some o => exact absurd rfl (no (S.keepV _ _ q))
  · obtain ⟨o, _, _, q, _⟩ := S.ns; exact Ne.symm (no q)
  · intro hm
    obtain ⟨p, hp, r⟩ := List.mem_map.mp hm
    obtain ⟨o, q, _⟩ := S.cell p hp
    exact no q r
  · intro hm
    obtain ⟨p, hp, r⟩ := List.mem_map.mp hm
    obtain ⟨o, q, _⟩ := S.led p hp
    exact no q r
end
section
variable {prog : Program} {w : World} {A : Around} {s s₁ : Shared} {env : Env} {O V : View} {L : Addr} {m : Str → Option Value} {cl : List (Str × Addr)} {cv : Str → Option Value} {M : Led}
  {I : Addr} {fp wr : List Addr} {n : Nat} {P : Nat → Value → Prop} {Pt : Nat → Array Value → Prop} {Sti : Nat → Heap → Prop} {Mid : Nat → Addr → Heap → Prop} {target : Expr} {body : List Stmt} {R : Result → Shared → Prop}
noncomputable abbrev Inv := Nat → View → (Str → Option Value) → (Str → Option Value) → Led → Prop
/-- the end of a turn -/
noncomputable def Turned (O V : View) (L : Addr) (cl : List (Str × Addr)) (hb : Heap) (wr : List Addr) (J : View → (Str → Option Value) → (Str → Option Value) → Led → Prop) (s : Shared) (R : Result → Shared → Prop) (f : Flow) (s' : Shared) : Prop :=
  match f with
  | .brk => R (.ok .next) s'
  | .ret v => R (.ok (.ret v)) s'
  | _ => ∃ V' m' cv' M' h tk, s' = { s with heap := h, toks := tk } ∧ Sub V V' ∧ St O V' L m' cl cv' (own hb wr ++ M') h ∧ J V' m' cv' M'

theorem Turned.go {hb : Heap} {V' : View} {m' cv' : Str → Option Value} {M' : Led} {J : View → (Str → Option Value) → (Str → Option Value) → Led → Prop} {h : Heap} {tk : Nat} (S : St O V' L m' cl cv' (own hb wr ++ M') h) (hV : Sub V V') (j : J V' m' cv' M') :
    Turned O V L cl hb wr J s R .next { s with heap := h, toks := tk } := ⟨V', m', cv', M', h, tk, rfl, hV, S, j⟩
theorem Turned.cont {hb : Heap} {V' : View} {m' cv' : Str → Option Value} {M' : Led} {J : View → (Str → Option Value) → (Str → Option Value) → Led → Prop} {h : Heap} {tk : Nat} (S : St O V' L m' cl cv' (own hb wr ++ M') h) (hV : Sub V V') (j : J V' m' cv' M') :
    Turned O V L cl hb wr J s R .cont { s with heap := h, toks := tk } := ⟨V', m', cv', M', h, tk, rfl, hV, S, j⟩

theorem for_name {x : Str} {px : Pos} (W : Walks prog w A I fp wr n P Sti) (hx : env.kindOf x = some .local) (hk : env.scope.kind = .function) (hL : env.locals = L)
    (S : St O V L m cl cv M s₁.heap) (k : Sub s₁.heap.get? s.heap.get?) (hfr : ∀ b ∈ wr, s₁.heap.get? b = none) (hnd : wr.Nodup) (hst : Sti 0 s.heap) (hlive : ∀ i h, Sti i h → ∀ b ∈ wr, ∃ o, h.get? b = some o)
    (hfp : ∀ b ∈ fp, b ∈ wr ∨ (∃ o, O b = some o) ∨ ∃ o, V b = some o)
    (J : Inv) (h0 : J 0 V m cv M)
    (turn : ∀ i v V' m' cv' M' hb h tk, i < n → P i v → Sub V V' → J i V' m' cv' M' → St O V' L (fun y => if y = x then some v else m' y) cl cv' (own hb wr ++ M') h →
      wpAny (model prog w) A (execs body env) (Turned O V' L cl hb wr (J (i + 1)) s R) (fun _ _ => False) { s with heap := h, toks := tk })
    (done : ∀ V' m' cv' M' h tk, Sub V V' → J n V' m' cv' M' → St O V' L m' cl cv' M' h → R (.ok .next) { s with heap := h, toks := tk }) :
    codeAny (model prog w) A (.forLoop (.Name x px) (.ref I) body [] env) R s := by
  subst hL
  have S0 : St O V env.locals m cl cv (own s.heap wr ++ M) s.heap := (S.grown k).addOwn (fun _ _ _ e => e) hnd (fun b hb => S.freshOff (hfr b hb)) (hlive 0 _ hst)
  refine codeAny_forLoop
    (fun k s' => ∃ V' m' cv' M' hb tk i, s' = { s with heap := hb, toks := tk } ∧ Sti i hb ∧ Sub V V' ∧ St O V' env.locals m' cl cv' (own hb wr ++ M') hb ∧ J i V' m' cv' M' ∧ i ≤ n ∧ k = n + 1 - i) ?_ (n + 1)
    ⟨V, m, cv, M, s.heap, s.toks, 0, rfl, hst, Sub.refl _, S0, h0, Nat.zero_le _, rfl⟩
  rintro k' s' ⟨V', m', cv', M', hb, tk, i, rfl, hst', hV, S', hJ, hi, rfl⟩
  have SD := S'.dropOwn
  have off := S'.ownOff
  by_cases hlt : i < n
  · refine W.item i _ _ _ hlt hst' fun v h₁ tk₁ hP hst₁ hk₁ => ?_
    have S1 : St O V' env.locals m' cl cv' (own h₁ wr ++ M') h₁ := SD.addOwn hk₁ hnd off (hlive _ _ hst₁)
    refine wpAny_assign_Name (wpAny_storeName_local hx S1.ns (fun h₂ hn₂ hs₂ => ?_) (by rw [hk]; rfl))
    have S2 := S1.setL hn₂ hs₂
    refine wpAny_mono (turn i v V' m' cv' M' h₁ h₂ _ hlt hP hV hJ S2) (fun f s₃ t => ?_) fun _ _ e => e.elim
    have fin : (∃ V'' m'' cv'' M'' h tk, s₃ = { s with heap := h, toks := tk } ∧ Sub V' V'' ∧ St O V'' env.locals m'' cl cv'' (own h₁ wr ++ M'') h ∧ J (i + 1) V'' m'' cv'' M'') →
        ∃ j, j < n + 1 - i ∧ ∃ V' m' cv' M' hb tk i, s₃ = { s with heap := hb, toks := tk } ∧ Sti i hb ∧ Sub V V' ∧ St O V' env.locals m' cl cv' (own hb wr ++ M') hb ∧ J i V' m' cv' M' ∧ i ≤ n ∧ j = n + 1 - i := by
      rintro ⟨V'', m'', cv'', M'', h₃, tk₃, rfl, hV₃, S3, hJ₃⟩
      have hst₃ : Sti (i + 1) h₃ := W.frame _ _ _ hst₁ fun b hb o e => by
        rcases hfp b hb with q | ⟨o', q⟩ | ⟨o', q⟩
        · exact S3.own_get q e
        · have e1 := S1.keepO _ _ q; rw [e] at e1; cases e1; exact S3.keepO _ _ q
        · have e1 := S1.keepV _ _ (hV _ _ q); rw [e] at e1; cases e1; exact S3.keepV _ _ (hV₃ _ _ (hV _ _ q))
      exact ⟨n + 1 - (i + 1), by omega, V'', m'', cv'', M'', h₃, tk₃, i + 1, rfl, hst₃, hV.trans hV₃, S3.dropOwn.addOwn (fun _ _ _ e => e) hnd S3.ownOff (hlive _ _ hst₃), hJ₃, hlt, rfl⟩
    cases f with
    | next => exact fin t
    | cont => exact fin t
    | brk => exact t
    | ret v => exact t
  · have hin : i = n := by omega
    subst hin
    refine W.done _ _ _ hst' fun h₁ tk₁ hk₁ => wpAny_execs_nil ?_
    refine done V' m' cv' M' h₁ tk₁ hV hJ ⟨SD.ns.at' fun o e => hk₁ _ o (fun q => (off _ q).2.2.1 rfl) e, ?_, ?_, SD.apart, SD.off, ?_, SD.coff, SD.cinj, ?_, SD.moff, SD.nd⟩
    · exact fun a o e => hk₁ a o (fun q => by rw [(off a q).1] at e; cases e) (SD.keepO a o e)
    · exact fun a o e => hk₁ a o (fun q => by rw [(off a q).2.1] at e; cases e) (SD.keepV a o e)
    · exact fun p hp => let ⟨o, a, b⟩ := SD.cell p hp; ⟨o, hk₁ _ _ (fun q => (off _ q).2.2.2.1 (List.mem_map_of_mem hp)) a, b⟩
    · exact fun p hp => let ⟨o, a, b⟩ := SD.led p hp; ⟨o, hk₁ _ _ (fun q => (off _ q).2.2.2.2 (List.mem_map_of_mem hp)) a, b⟩

theorem pair_assign {xk xv : Str} {pk pv pt : Pos} {x1 : Nat} {T : Addr} {v0 v1 : Value} {Q : Unit → Shared → Prop} {E : Value → Shared → Prop} (hh : A.handled = none) (hxk : env.kindOf xk = some .local) (hxv : env.kindOf xv = some .local) (hk : env.scope.kind = .function)
    (S : St O V env.locals m cl cv M s.heap) (hT : s.heap.IsTuple T #[v0, v1])
    (h : ∀ h' tk, (∀ b o, b ≠ env.locals → s.heap.get? b = some o → h'.get? b = some o) → St O V env.locals (fun y => if y = xv then some v1 else if y = xk then some v0 else m y) cl cv M h' → Q () { s with heap := h', toks := tk }) :
    wpAny (model prog w) A (assign (.Tuple [.Name xk pk, .Name xv pv] x1 pt) env (.ref T)) Q E s := by
  refine wpAny_assign_Tuple hh hT rfl rfl fun h₃ hx₃ => ?_
  replace hx₃ : Heap.ExtBut s.heap.objs.size s.heap h₃ := hx₃
  have up : Sub s.heap.get? h₃.get? := fun b o e => hx₃ b o (Nat.ne_of_lt (Heap.lt_size e)) e
  have S3 := S.grown up
  show wpAny _ _ (do holding [v1] (assign (.Name xk pk) env v0); do holding [] (assign (.Name xv pv) env v1); pure ()) _ _ _
  refine wpAny_bind (wpAny_holding (wpAny_assign_Name (wpAny_storeName_local hxk S3.ns (fun h₄ hn₄ hs₄ => ?_) (by rw [hk]; rfl))))
  have S4 := S3.setL hn₄ hs₄
  refine wpAny_bind (wpAny_holding (wpAny_assign_Name (wpAny_storeName_local hxv S4.ns (fun h₅ hn₅ hs₅ => wpAny_pure ?_) (by rw [hk]; rfl))))
  exact h h₅ _ (fun b o q e => hs₅.extBut b o q (hs₄.extBut b o q (up b o e))) (S4.setL hn₅ hs₅)

theorem for_pair {xk xv : Str} {pk pv pt : Pos} {x1 : Nat} (hh : A.handled = none) (W : WalksT prog w A I fp wr n Pt Sti Mid) (hxk : env.kindOf xk = some .local) (hxv : env.kindOf xv = some .local) (hk : env.scope.kind = .function) (hL : env.locals = L)
    (S : St O V L m cl cv M s₁.heap) (k : Sub s₁.heap.get? s.heap.get?) (hfr : ∀ b ∈ wr, s₁.heap.get? b = none) (hnd : wr.Nodup) (hst : Sti 0 s.heap) (hlive : ∀ i h, Sti i h → ∀ b ∈ wr, ∃ o, h.get? b = some o)
    (hmid : ∀ i T h, Mid i T h → ∀ b ∈ wr, ∃ o, h.get? b = some o)
    (hfp : ∀ b ∈ fp, b ∈ wr ∨ (∃ o, O b = some o) ∨ ∃ o, V b = some o)
    (hPt : ∀ i vals, Pt i vals → ∃ v0 v1, vals = #[v0, v1])
    (J : Inv) (h0 : J 0 V m cv M)
    (turn : ∀ i v0 v1 V' m' cv' M' hb h tk, i < n → Pt i #[v0, v1] → Sub V V' → J i V' m' cv' M' → St O V' L (fun y => if y = xv then some v1 else if y = xk then some v0 else m' y) cl cv' (own hb wr ++ M') h →
      wpAny (model prog w) A (execs body env) (Turned O V' L cl hb wr (J (i + 1)) s R) (fun _ _ => False) { s with heap := h, toks := tk })
    (done : ∀ V' m' cv' M' h tk, Sub V V' → J n V' m' cv' M' → St O V' L m' cl cv' M' h → R (.ok .next) { s with heap := h, toks := tk }) :
    codeAny (model prog w) A (.forLoop (.Tuple [.Name xk pk, .Name xv pv] x1 pt) (.ref I) body [] env) R s := by
  subst hL
  have S0 : St O V env.locals m cl cv (own s.heap wr ++ M) s.heap := (S.grown k).addOwn (fun _ _ _ e => e) hnd (fun b hb => S.freshOff (hfr b hb)) (hlive 0 _ hst)
  refine codeAny_forLoop_any
    (fun k s' => ∃ V' m' cv' M' hb tk i, s' = { s with heap := hb, toks := tk } ∧ Sti i hb ∧ Sub V V' ∧ St O V' env.locals m' cl cv' (own hb wr ++ M') hb ∧ J i V' m' cv' M' ∧ i ≤ n ∧ k = n + 1 - i) ?_ (n + 1)
    ⟨V, m, cv, M, s.heap, s.toks, 0, rfl, hst, Sub.refl _, S0, h0, Nat.zero_le _, rfl⟩
  rintro k' s' ⟨V', m', cv', M', hb, tk, i, rfl, hst', hV, S', hJ, hi, rfl⟩
  have SD := S'.dropOwn
  have off := S'.ownOff
  by_cases hlt : i < n
  · refine W.item i _ _ _ hlt hst' fun T vals h₁ tk₁ hP _ hT hM hk₁ => ?_
    obtain ⟨v0, v1, rfl⟩ := hPt i vals hP
    have S1 : St O V' env.locals m' cl cv' (own h₁ wr ++ M') h₁ := SD.addOwn hk₁ hnd off (hmid _ _ _ hM)
    refine W.go _ _ _ i T _ _ _ hM fun h₂ hst₂ hk₂ => ?_
    have S2 : St O V' env.locals m' cl cv' (own h₂ wr ++ M') h₂ := S1.dropOwn.addOwn hk₂ hnd S1.ownOff (hlive _ _ hst₂)
    have hT₂ : h₂.IsTuple T #[v0, v1] := let ⟨o, e, r⟩ := hT; ⟨o, hk₂ T o (W.apart _ _ _ hM) e, r⟩
    refine pair_assign (s := { s with heap := h₂, toks := tk₁ }) hh hxk hxv hk S2 hT₂ fun h₃ tk₃ _ S3 => ?_
    refine wpAny_mono (turn i v0 v1 V' m' cv' M' h₂ h₃ _ hlt hP hV hJ S3) (fun f s₃ t => ?_) fun _ _ e => e.elim
    have fin : (∃ V'' m'' cv'' M'' h tk, s₃ = { s with heap := h, toks := tk } ∧ Sub V' V'' ∧ St O V'' env.locals m'' cl cv'' (own h₂ wr ++ M'') h ∧ J (i + 1) V'' m'' cv'' M'') →
        ∃ j, j < n + 1 - i ∧ ∃ V' m' cv' M' hb tk i, s₃ = { s with heap := hb, toks := tk } ∧ Sti i hb ∧ Sub V V' ∧ St O V' env.locals m' cl cv' (own hb wr ++ M') hb ∧ J i V' m' cv' M' ∧ i ≤ n ∧ j = n + 1 - i := by
      rintro ⟨V'', m'', cv'', M'', h₃, tk₃, rfl, hV₃, S3, hJ₃⟩
      have hst₃ : Sti (i + 1) h₃ := W.frame _ _ _ hst₂ fun b hb o e => by
        rcases hfp b hb with q | ⟨o', q⟩ | ⟨o', q⟩
        · exact S3.own_get q e
        · have e1 := S2.keepO _ _ q; rw [e] at e1; cases e1; exact S3.keepO _ _ q
        · have e1 := S2.keepV _ _ (hV _ _ q); rw [e] at e1; cases e1; exact S3.keepV _ _ (hV₃ _ _ (hV _ _ q))
      exact ⟨n + 1 - (i + 1), by omega, V'', m'', cv'', M'', h₃, tk₃, i + 1, rfl, hst₃, hV.trans hV₃, S3.dropOwn.addOwn (fun _ _ _ e => e) hnd S3.ownOff (hlive _ _ hst₃), hJ₃, hlt, rfl⟩
    cases f with
    | next => exact fin t
    | cont => exact fin t
    | brk => exact t
    | ret v => exact t
  · have hin : i = n := by omega
    subst hin
    refine W.done _ _ _ hst' fun h₁ tk₁ hk₁ => wpAny_execs_nil ?_
    refine done V' m' cv' M' h₁ tk₁ hV hJ ⟨SD.ns.at' fun o e => hk₁ _ o (fun q => (off _ q).2.2.1 rfl) e, ?_, ?_, SD.apart, SD.off, ?_, SD.coff, SD.cinj, ?_, SD.moff, SD.nd⟩
    · exact fun a o e => hk₁ a o (fun q => by rw [(off a q).1] at e; cases e) (SD.keepO a o e)
    · exact fun a o e => hk₁ a o (fun q => by rw [(off a q).2.1] at e; cases e) (SD.keepV a o e)
    · exact fun p hp => let ⟨o, a, b⟩ := SD.cell p hp; ⟨o, hk₁ _ _ (fun q => (off _ q).2.2.2.1 (List.mem_map_of_mem hp)) a, b⟩
    · exact fun p hp => let ⟨o, a, b⟩ := SD.led p hp; ⟨o, hk₁ _ _ (fun q => (off _ q).2.2.2.2 (List.mem_map_of_mem hp)) a, b⟩
end
-- CompS
section
variable {O V V' : View} {L C : Addr} {m mC : Str → Option Value} {cl : List (Str × Addr)} {cv : Str → Option Value} {M : Led} {h h' : Heap}
theorem St.inner (S : St O V L m cl cv M h) (k : Sub h.get? h'.get?) (hC : h.get? C = none) (hn : h'.Ns C mC) : St O V C mC cl cv ((L, PN m) :: M) h' := by
  have S' := S.grown k
  have f := S.freshOff hC
  refine ⟨hn, S'.keepO, S'.keepV, S'.apart, ⟨f.1, f.2.1⟩, S'.cell, fun p hp => ⟨(S.coff p hp).1, (S.coff p hp).2.1, fun q => f.2.2.2.1 (q ▸ List.mem_map_of_mem hp)⟩, S.cinj, ?_, ?_, ?_⟩
  · intro p hp
    rcases List.mem_cons.mp hp with rfl | hp
    · exact ns_at S'.ns
    · exact S'.led p hp
  · intro p hp
    rcases List.mem_cons.mp hp with rfl | hp
    · refine ⟨S.off.1, S.off.2, Ne.symm f.2.2.1, fun q => ?_⟩
      obtain ⟨r, hr, e⟩ := List.mem_map.mp q
      exact (S.coff r hr).2.2 e
    · exact ⟨(S.moff p hp).1, (S.moff p hp).2.1, fun q => f.2.2.2.2 (q ▸ List.mem_map_of_mem hp), (S.moff p hp).2.2.2⟩
  · refine List.nodup_cons.mpr ⟨fun hm => ?_, S.nd⟩
    obtain ⟨r, hr, e⟩ := List.mem_map.mp hm
    exact (S.moff r hr).2.2.1 e
theorem St.outer (S : St O V C mC cl cv ((L, PN m) :: M) h) : St O V L m cl cv M h := by
  have hL := S.moff _ (.head _)
  have hnd := List.nodup_cons.mp S.nd
  obtain ⟨o, e, p⟩ := S.led _ (.head _)
  refine ⟨p.ns e, S.keepO, S.keepV, S.apart, ⟨hL.1, hL.2.1⟩, S.cell, fun p hp => ⟨(S.coff p hp).1, (S.coff p hp).2.1, fun q => hL.2.2.2 (List.mem_map.mpr ⟨p, hp, q⟩)⟩, S.cinj, fun p hp => S.led p (.tail _ hp), ?_, hnd.2⟩
  intro p hp
  exact ⟨(S.moff p (.tail _ hp)).1, (S.moff p (.tail _ hp)).2.1, fun q => hnd.1 (q ▸ List.mem_map_of_mem (f := (·.1)) hp), (S.moff p (.tail _ hp)).2.2.2⟩
end
section
variable {prog : Program} {w : World} {A : Around} {s s₁ : Shared} {env : Env} {O V : View} {m : Str → Option Value} {cl cl' : List (Str × Addr)} {cv : Str → Option Value} {M : Led}
  {I : Addr} {fp wr : List Addr} {n : Nat} {P : Nat → Value → Prop} {Pt : Nat → Array Value → Prop} {Sti : Nat → Heap → Prop} {Mid : Nat → Addr → Heap → Prop}
/-- the ledger within a comprehension -/
noncomputable abbrev cM (env : Env) (m : Str → Option Value) (D : Addr) (ys : List Value) (hb : Heap) (wr : List Addr) (M : Led) : Led := own hb wr ++ ((env.locals, PN m) :: (D, PL ys) :: M)
/-- the end of an element's turn -/
noncomputable def Elt (O V : View) (C : Addr) (cl : List (Str × Addr)) (cv : Str → Option Value) (MM : Led) (J : View → Prop) (s s' : Shared) : Prop :=
  ∃ V' mC h tk, s' = { s with heap := h, toks := tk } ∧ Sub V V' ∧ St O V' C mC cl cv MM h ∧ J V'

noncomputable abbrev InvC := Nat → View → List Value → Prop

noncomputable abbrev tests (ifs : List Expr) (cenv : Env) : Sem Bool := forIn ifs true fun c r => if r = true then do let ok ← isTrue c cenv (eval c cenv); pure (ForInStep.yield ok) else pure (ForInStep.yield r)

theorem compLoop_name {elt iter : Expr} {x : Str} {px : Pos} {ifs : List Expr} {scope : Scope} {pos : Pos} {D C : Addr} {cenv : Env} {mC : Str → Option Value} {R : Result → Shared → Prop} (W : Walks prog w A I fp wr n P Sti)
    (hx : cenv.kindOf x = some .local) (hk : cenv.scope.kind = .function) (hC : cenv.locals = C) (hsz : n ≤ sizeLine) (hnd : wr.Nodup) (hst : Sti 0 s.heap) (hlive : ∀ i h, Sti i h → ∀ b ∈ wr, ∃ o, h.get? b = some o)
    (hfp : ∀ b ∈ fp, b ∈ wr ∨ (∃ o, O b = some o) ∨ ∃ o, V b = some o)
    (S : St O V C mC cl cv (cM env m D [] s.heap wr M) s.heap) (J : InvC) (h0 : J 0 V [])
    (turn : ∀ i v V' ys (mC : Str → Option Value) hb h tk, i < n → P i v → Sub V V' → J i V' ys → St O V' C (fun y => if y = x then some v else mC y) cl cv (cM env m D ys hb wr M) h →
      wpAny (model prog w) A (tests ifs cenv) (fun ok s₃ => if ok = true then wpAny (model prog w) A (eval elt cenv) (fun y => Elt O V' C cl cv (cM env m D ys hb wr M) (fun V'' => J (i + 1) V'' (ys ++ [y])) s) (fun _ _ => False) s₃
        else Elt O V' C cl cv (cM env m D ys hb wr M) (fun V'' => J (i + 1) V'' ys) s s₃) (fun _ _ => False) { s with heap := h, toks := tk })
    (done : ∀ V' ys (mC : Str → Option Value) h tk, Sub V V' → J n V' ys → St O V' C mC cl cv ((env.locals, PN m) :: (D, PL ys) :: M) h → R (.ok .next) { s with heap := h, toks := tk }) :
    codeAny (model prog w) A (.compLoop (.ListComp elt [⟨.Name x px, iter, ifs, 0⟩] scope pos) 0 (.ref I) (.ref D) cenv) R s := by
  subst hC
  refine codeAny_compLoop_tests
    (fun k s' => ∃ V' mC' ys hb tk i, s' = { s with heap := hb, toks := tk } ∧ Sti i hb ∧ Sub V V' ∧ St O V' cenv.locals mC' cl cv (cM env m D ys hb wr M) hb ∧ J i V' ys ∧ i ≤ n ∧ ys.length ≤ i ∧ k = n + 1 - i) ?_ (n + 1)
    ⟨V, mC, [], s.heap, s.toks, 0, rfl, hst, Sub.refl _, S, h0, Nat.zero_le _, Nat.zero_le _, rfl⟩
  rintro k' s' ⟨V', mC', ys, hb, tk, i, rfl, hst', hV, S', hJ, hi, hys, rfl⟩
  have SD := S'.dropOwn
  have off := S'.ownOff
  by_cases hlt : i < n
  · refine W.item i _ _ _ hlt hst' fun v h₁ tk₁ hP hst₁ hk₁ => ?_
    have S1 : St O V' cenv.locals mC' cl cv (cM env m D ys h₁ wr M) h₁ := SD.addOwn hk₁ hnd off (hlive _ _ hst₁)
    refine wpAny_assign_Name (wpAny_storeName_local hx S1.ns (fun h₂ hn₂ hs₂ => ?_) (by rw [hk]; rfl))
    have S2 := S1.setL hn₂ hs₂
    have next : ∀ {ys' : List Value} {V'' : View} {mC'' : Str → Option Value} {h₃ : Heap} {tk₃ : Nat}, Sub V' V'' → St O V'' cenv.locals mC'' cl cv (own h₁ wr ++ ((env.locals, PN m) :: (D, PL ys') :: M)) h₃ → J (i + 1) V'' ys' → ys'.length ≤ i + 1 →
        ∃ j, j < n + 1 - i ∧ ∃ V' mC' ys hb tk i, ({ s with heap := h₃, toks := tk₃ } : Shared) = { s with heap := hb, toks := tk } ∧ Sti i hb ∧ Sub V V' ∧ St O V' cenv.locals mC' cl cv (cM env m D ys hb wr M) hb ∧ J i V' ys ∧ i ≤ n ∧ ys.length ≤ i ∧ j = n + 1 - i := by
      intro ys' V'' mC'' h₃ tk₃ hV₃ S3 hJ₃ hl
      have hst₃ : Sti (i + 1) h₃ := W.frame _ _ _ hst₁ fun b hb o e => by
        rcases hfp b hb with q | ⟨o', q⟩ | ⟨o', q⟩
        · exact S3.own_get q e
        · have e1 := S1.keepO _ _ q; rw [e] at e1; cases e1; exact S3.keepO _ _ q
        · have e1 := S1.keepV _ _ (hV _ _ q); rw [e] at e1; cases e1; exact S3.keepV _ _ (hV₃ _ _ (hV _ _ q))
      exact ⟨n + 1 - (i + 1), by omega, V'', mC'', ys', h₃, tk₃, i + 1, rfl, hst₃, hV.trans hV₃, S3.dropOwn.addOwn (fun _ _ _ e => e) hnd S3.ownOff (hlive _ _ hst₃), hJ₃, hlt, hl, rfl⟩
    refine wpAny_mono (turn i v V' ys mC' h₁ h₂ _ hlt hP hV hJ S2) (fun ok s₃ t => ?_) fun _ _ e => e.elim
    cases ok with
    | false =>
      simp only [Bool.false_eq_true, if_false] at t ⊢
      obtain ⟨V'', mC'', h₃, tk₃, rfl, hV₃, S3, hJ₃⟩ := t
      exact next hV₃ S3 hJ₃ (Nat.le_succ_of_le hys)
    | true =>
      simp only [if_true] at t ⊢
      refine wpAny_mono t (fun y s₄ t => ?_) fun _ _ e => e.elim
      obtain ⟨V'', mC'', h₃, tk₃, rfl, hV₃, S3, hJ₃⟩ := t
      have hD : h₃.PlainList D ys.toArray := by
        obtain ⟨o, e, k, rfl⟩ := S3.getM (a := D) (P := PL ys) (by simp)
        exact ⟨k, e⟩
      refine wpAny_list_append_plain (hsz := by rw [List.size_toArray]; omega) hD fun h₄ hD₄ hs₄ => ?_
      have S4 : St O V'' cenv.locals mC'' cl cv ((own h₁ wr ++ [(env.locals, PN m)]) ++ (D, PL (ys ++ [y])) :: M) h₄ := by
        refine S3.turn (P := PL ys) (pre := own h₁ wr ++ [(env.locals, PN m)]) (post := M) (by rw [List.append_assoc]; rfl) ?_ hs₄
        obtain ⟨k, e⟩ := hD₄
        exact ⟨_, e, k, by simp⟩
      refine next (ys' := ys ++ [y]) hV₃ (by rw [List.append_assoc] at S4; exact S4) hJ₃ ?_
      rw [List.length_append, List.length_singleton]; omega
  · have hin : i = n := by omega
    subst hin
    refine W.done _ _ _ hst' fun h₁ tk₁ hk₁ => ?_
    refine done V' ys mC' h₁ tk₁ hV hJ ⟨SD.ns.at' fun o e => hk₁ _ o (fun q => (off _ q).2.2.1 rfl) e, ?_, ?_, SD.apart, SD.off, ?_, SD.coff, SD.cinj, ?_, SD.moff, SD.nd⟩
    · exact fun a o e => hk₁ a o (fun q => by rw [(off a q).1] at e; cases e) (SD.keepO a o e)
    · exact fun a o e => hk₁ a o (fun q => by rw [(off a q).2.1] at e; cases e) (SD.keepV a o e)
    · exact fun p hp => let ⟨o, a, b⟩ := SD.cell p hp; ⟨o, hk₁ _ _ (fun q => (off _ q).2.2.2.1 (List.mem_map_of_mem hp)) a, b⟩
    · exact fun p hp => let ⟨o, a, b⟩ := SD.led p hp; ⟨o, hk₁ _ _ (fun q => (off _ q).2.2.2.2 (List.mem_map_of_mem hp)) a, b⟩
/-- the frame of a comprehension is laid -/
theorem comp_frame {scope : Scope} {E : Value → Shared → Prop} {Q : Value → Env → Shared → Prop} (hcell : ∀ y ∈ scope.names, y.2 ≠ .cell) (hkind : scope.kind = .function)
    (S : St O V env.locals m cl cv M s₁.heap) (k : Sub s₁.heap.get? s.heap.get?) (hfr : ∀ b ∈ wr, s₁.heap.get? b = none) (hnd : wr.Nodup) (hl : ∀ b ∈ wr, ∃ o, s.heap.get? b = some o)
    (h : ∀ D C h₁ tk, (∀ b o, s.heap.get? b = some o → h₁.get? b = some o) → St O V C (fun _ => none) cl cv (cM env m D [] h₁ wr M) h₁ → Q (.ref D) (compEnvC scope cl' C env) { s with heap := h₁, toks := tk }) :
    wpAny (model prog w) A (newList []) (fun acc s₃ => wpAny (model prog w) A (newFunctionEnv scope env.globals cl' [] env.qual none .none (some env)) (fun cenv s₄ => Q acc { cenv with scope := relabel scope env } s₄) E s₃) E s := by
  refine wpAny_newObj_type (wpAny_newFunctionEnv hcell (by intro y hy; simp at hy) (fun h₁ hns₁ hsb₁ => ?_) hkind)
  dsimp only at hns₁ hsb₁ ⊢
  have Sg := (S.grown k).alloc { cls := .type "list", dict := none, data := .seq ([] : List Value).toArray } (P := PL []) ⟨0, rfl⟩
  have kD : Sub s.heap.get? (s.heap.push { cls := .type "list", dict := none, data := .seq ([] : List Value).toArray }).get? := fun b o e => Heap.get?_push_of_some _ e
  generalize hH2 : s.heap.push { cls := .type "list", dict := none, data := .seq ([] : List Value).toArray } = H2 at hns₁ hsb₁ Sg kD ⊢
  have hsz : H2.objs.size = s.heap.objs.size + 1 := by rw [← hH2, Heap.size_push]
  have none_at : ∀ {H : Heap}, H.get? H.objs.size = none := fun {H} => by
    cases e : H.get? H.objs.size with
    | none => rfl
    | some o => exact absurd (Heap.lt_size e) (Nat.lt_irrefl _)
  have kC : Sub H2.get? h₁.get? := fun b o e => hsb₁.extBut b o (Nat.ne_of_lt (Heap.lt_size e)) (Heap.get?_push_of_some _ e)
  have S2 := Sg.inner kC none_at hns₁
  have live : ∀ b ∈ wr, ∃ o, h₁.get? b = some o := fun b hb => let ⟨o, e⟩ := hl b hb; ⟨o, kC _ _ (kD _ _ e)⟩
  refine h s.heap.objs.size H2.objs.size h₁ _ (fun b o e => kC _ _ (kD _ _ e)) ?_
  refine S2.addOwn (fun _ _ _ e => e) hnd (fun b hb => ?_) live
  have f := S.freshOff (hfr b hb)
  obtain ⟨o, e⟩ := hl b hb
  have lt := Heap.lt_size e
  refine ⟨f.1, f.2.1, fun q => ?_, f.2.2.2.1, ?_⟩
  · exact absurd lt (by rw [q, hsz]; exact Nat.not_lt.mpr (Nat.le_succ _))
  · intro q
    rw [List.map_cons, List.map_cons, List.mem_cons, List.mem_cons] at q
    rcases q with q | q | q
    · exact f.2.2.1 q
    · exact absurd lt (by rw [q]; exact Nat.lt_irrefl _)
    · exact f.2.2.2.2 q

theorem lc_core {elt iter : Expr} {x : Str} {px : Pos} {ifs : List Expr} {scope : Scope} {pos : Pos} {E : Value → Shared → Prop} {RR : Value → Addr → Result → Shared → Prop} (W : Walks prog w A I fp wr n P Sti)
    (hcell : ∀ y ∈ scope.names, y.2 ≠ .cell) (hkind : scope.kind = .function) (hx : scope.names.lookup x = some .local) (hsz : n ≤ sizeLine)
    (S : St O V env.locals m cl cv M s₁.heap) (k : Sub s₁.heap.get? s.heap.get?) (hfr : ∀ b ∈ wr, s₁.heap.get? b = none) (hnd : wr.Nodup) (hst : Sti 0 s.heap) (hlive : ∀ i h, Sti i h → ∀ b ∈ wr, ∃ o, h.get? b = some o)
    (hfp : ∀ b ∈ fp, b ∈ wr ∨ (∃ o, O b = some o) ∨ ∃ o, V b = some o) (J : InvC) (h0 : J 0 V [])
    (turn : ∀ i v C D V' ys (mC : Str → Option Value) hb h tk, i < n → P i v → Sub V V' → J i V' ys → St O V' C (fun y => if y = x then some v else mC y) cl cv (cM env m D ys hb wr M) h →
      wpAny (model prog w) A (tests ifs (compEnvC scope cl' C env)) (fun ok s₃ => if ok = true then wpAny (model prog w) A (eval elt (compEnvC scope cl' C env)) (fun y => Elt O V' C cl cv (cM env m D ys hb wr M) (fun V'' => J (i + 1) V'' (ys ++ [y])) s) (fun _ _ => False) s₃
        else Elt O V' C cl cv (cM env m D ys hb wr M) (fun V'' => J (i + 1) V'' ys) s s₃) (fun _ _ => False) { s with heap := h, toks := tk })
    (done : ∀ D C V' ys (mC : Str → Option Value) h tk, Sub V V' → J n V' ys → St O V' C mC cl cv ((env.locals, PN m) :: (D, PL ys) :: M) h → RR (.ref D) C (.ok .next) { s with heap := h, toks := tk }) :
    wpAny (model prog w) A (newList []) (fun acc s₃ => wpAny (model prog w) A (newFunctionEnv scope env.globals cl' [] env.qual none .none (some env)) (fun cenv s₄ =>
      codeAny (model prog w) A (.compStart (.ListComp elt [⟨.Name x px, iter, ifs, 0⟩] scope pos) 0 (.ref I) acc { cenv with scope := relabel scope env }) (RR acc cenv.locals) s₄) E s₃) E s := by
  refine comp_frame (s₁ := s₁) (s := s) (Q := fun acc cenv s₄ => codeAny (model prog w) A (.compStart (.ListComp elt [⟨.Name x px, iter, ifs, 0⟩] scope pos) 0 (.ref I) acc cenv) (RR acc cenv.locals) s₄) hcell hkind S k hfr hnd (hlive 0 _ hst) fun D C h₁ tk hk₁ S₁ => ?_
  have hst₁ : Sti 0 h₁ := W.frame _ _ _ hst fun b _ o e => hk₁ b o e
  have loop : codeAny (model prog w) A (.compLoop (.ListComp elt [⟨.Name x px, iter, ifs, 0⟩] scope pos) 0 (.ref I) (.ref D) (compEnvC scope cl' C env)) (RR (.ref D) C) { s with heap := h₁, toks := tk } :=
    compLoop_name (s := { s with heap := h₁, toks := tk }) W (lookup_relabel_local hx) (by simp [compEnvC, relabel, hkind]) rfl hsz hnd hst₁ hlive hfp S₁ J h0
      (fun i v V' ys mC hb h tk hi hp hv hj S => turn i v C D V' ys mC hb h tk hi hp hv hj S) fun V' ys mC h tk hv hj S => done D C V' ys mC h tk hv hj S
  exact codeAny_compStart_list loop (W.self 0 _ _ _ hst₁ loop)
/-- what a comprehension over a source hands on, as a value -/
noncomputable def LcE (prog : Program) (w : World) (A : Around) (env : Env) (scope : Scope) (cl' : List (Str × Addr)) (e : Expr) (E : Value → Shared → Prop) (Q : Value → Shared → Prop) (it : Value) (s : Shared) : Prop :=
  wpAny (model prog w) A (newList []) (fun acc s₃ => wpAny (model prog w) A (newFunctionEnv scope env.globals cl' [] env.qual none .none (some env)) (fun cenv s₄ =>
      codeAny (model prog w) A (.compStart e 0 it acc { cenv with scope := relabel scope env }) (compPost (model prog w) A E none Q acc cenv.locals) s₄) E s₃) E s
/-- the same, under a name of the frame's -/
noncomputable def LcA (prog : Program) (w : World) (A : Around) (env : Env) (scope : Scope) (cl' : List (Str × Addr)) (e : Expr) (t : Expr) (E : Value → Shared → Prop) (Q : Flow → Shared → Prop) (it : Value) (s : Shared) : Prop :=
  wpAny (model prog w) A (newList []) (fun acc s₃ => wpAny (model prog w) A (newFunctionEnv scope env.globals cl' [] env.qual none .none (some env)) (fun cenv s₄ =>
      codeAny (model prog w) A (.compStart e 0 it acc { cenv with scope := relabel scope env }) (compPost (model prog w) A E (some (assign t env)) (fun _ s' => Q .next s') acc cenv.locals) s₄) E s₃) E s

theorem eval_lc {elt target iter : Expr} {ifs : List Expr} {scope : Scope} {pos : Pos} {Q E : Value → Shared → Prop} (hclos : closureFor scope env = pure cl') (hkind : scope.kind = .function)
    (hnames : ∀ y ∈ scope.names, y.2 = .local → scope.names.lookup y.1 = some .local)
    (h : wpAny (model prog w) A (eval iter env) (fun xv s₁ => wpAny (model prog w) A (pyIter xv) (LcE prog w A env scope cl' (.ListComp elt [⟨target, iter, ifs, 0⟩] scope pos) E Q) E s₁) E s)
    (hs : ∀ x, foldedSetIterable iter env x = pure x := by intro _; rfl) :
    wpAny (model prog w) A (eval (.ListComp elt [⟨target, iter, ifs, 0⟩] scope pos) env) Q E s := by
  rw [eval_ListComp]
  exact wpAny_comprehension_free (use := none) rfl hs hclos hkind hnames h

theorem exec_lc {elt target iter : Expr} {ifs : List Expr} {scope : Scope} {pos spos py : Pos} {y : Str} {Q : Flow → Shared → Prop} {E : Value → Shared → Prop}
    (hsw : swapsWith (.ListComp elt [⟨target, iter, ifs, 0⟩] scope pos) (some (.Name y py)) spos.line env = pure true) (hclos : closureFor scope env = pure cl') (hkind : scope.kind = .function)
    (hnames : ∀ y ∈ scope.names, y.2 = .local → scope.names.lookup y.1 = some .local)
    (h : wpAny (model prog w) A (eval iter env) (fun xv s₁ => wpAny (model prog w) A (pyIter xv) (LcA prog w A env scope cl' (.ListComp elt [⟨target, iter, ifs, 0⟩] scope pos) (.Name y py) E Q) E s₁) E s)
    (hs : ∀ x, foldedSetIterable iter env x = pure x := by intro _; rfl) :
    wpAny (model prog w) A (exec (.Assign [.Name y py] (.ListComp elt [⟨target, iter, ifs, 0⟩] scope pos) spos) env) Q E s := by
  rw [exec_Assign_Name_used _ _ _ _ hsw]
  refine wpAny_bind (wpAny_standAt (wpAny_bind ?_))
  show wpAny _ A (do let _ ← comprehension (.ListComp elt [⟨target, iter, ifs, 0⟩] scope pos) scope env _ (newList []) false (eval iter env) (some (assign (.Name y py) env))) _ _ s
  exact wpAny_bind (wpAny_mono (wpAny_comprehension_free (use := some (assign (.Name y py) env)) (Q := fun _ s' => Q .next s') rfl hs hclos hkind hnames h) (fun _ s' hq => wpAny_pure (wpAny_pure hq)) fun _ _ e => e)

theorem St.change {V' : View} {L C : Addr} {m mC : Str → Option Value} {h h'' : Heap} (S : St O V' C mC cl cv ((L, PN m) :: M) h) (hs : Heap.SameBut C h h'') : St O V' L m cl cv M h'' := by
  · have hL := S.moff _ (.head _)
    have hnd := List.nodup_cons.mp S.nd
    refine ⟨?_, ?_, ?_, S.apart, ⟨hL.1, hL.2.1⟩, ?_, fun p hp => ⟨(S.coff p hp).1, (S.coff p hp).2.1, fun q => hL.2.2.2 (List.mem_map.mpr ⟨p, hp, q⟩)⟩, S.cinj, ?_, ?_, hnd.2⟩
    · obtain ⟨o, e, p⟩ := S.led _ (.head _); exact p.ns ((hs.2 L hL.2.2.1).trans e)
    · exact fun a o e => (hs.2 a (fun q => by rw [q, S.off.1] at e; cases e)).trans (S.keepO a o e)
    · exact fun a o e => (hs.2 a (fun q => by rw [q, S.off.2] at e; cases e)).trans (S.keepV a o e)
    · exact fun p hp => let ⟨o, a, b⟩ := S.cell p hp; ⟨o, (hs.2 p.2 (S.coff p hp).2.2).trans a, b⟩
    · exact fun p hp => let ⟨o, a, b⟩ := S.led p (.tail _ hp); ⟨o, (hs.2 p.1 (S.moff p (.tail _ hp)).2.2.1).trans a, b⟩
    · intro p hp
      exact ⟨(S.moff p (.tail _ hp)).1, (S.moff p (.tail _ hp)).2.1, fun q => hnd.1 (q ▸ List.mem_map_of_mem (f := (·.1)) hp), (S.moff p (.tail _ hp)).2.2.2⟩

theorem post_E {E Q : Value → Shared → Prop} {D C : Addr} {V' : View} {ys : List Value} {mC : Str → Option Value} {h : Heap} {tk : Nat} (S : St O V' C mC cl cv ((env.locals, PN m) :: (D, PL ys) :: M) h)
    (hQ : ∀ h', St O V' env.locals m cl cv ((D, PL ys) :: M) h' → Q (.ref D) { s with heap := h', toks := tk }) : compPost (model prog w) A E none Q (.ref D) C (.ok .next) { s with heap := h, toks := tk } :=
  ⟨mC, S.ns, fun h' hs => hQ h' (S.change hs)⟩

theorem post_A {E : Value → Shared → Prop} {Q : Flow → Shared → Prop} {y : Str} {py : Pos} {D C : Addr} {V' : View} {ys : List Value} {mC : Str → Option Value} {h : Heap} {tk : Nat} (S : St O V' C mC cl cv ((env.locals, PN m) :: (D, PL ys) :: M) h)
    (hy : env.kindOf y = some .local) (hk : env.scope.kind = .function)
    (hQ : ∀ h' tk, St O V' env.locals (fun z => if z = y then some (.ref D) else m z) cl cv ((D, PL ys) :: M) h' → Q .next { s with heap := h', toks := tk }) :
    compPost (model prog w) A E (some (assign (.Name y py) env)) (fun _ s' => Q .next s') (.ref D) C (.ok .next) { s with heap := h, toks := tk } := by
  have hL := S.moff _ (.head _)
  have hnL : h.Ns env.locals m := by obtain ⟨o, e, p⟩ := S.led _ (.head _); exact p.ns e
  show wpAny _ A (assign (.Name y py) env (.ref D)) _ _ _
  refine wpAny_assign_Name (wpAny_storeName_local hy hnL (fun h₂ hn₂ hs₂ => ?_) (by rw [hk]; rfl))
  obtain ⟨o, es, ep, e, r⟩ := hn₂
  have S2 := S.turn (pre := []) rfl (h' := h₂) (P' := PN (fun z => if z = y then some (.ref D) else m z)) ⟨o, e, es, ep, r⟩ hs₂
  exact ⟨mC, S2.ns, fun h' hs => hQ h' _ (S2.change hs)⟩
end
-- Src
noncomputable def PI (vs : List Value) (o : Obj) : Prop := o.cls = .type "list" ∧ ∃ n, o.data = .seq vs.toArray n
theorem PL.pi {vs : List Value} {o : Obj} (x : PL vs o) : PI vs o := let ⟨n, e⟩ := x; ⟨e ▸ rfl, n, e ▸ rfl⟩
theorem At.list {h : Heap} {a : Addr} {vs : List Value} (x : At h.get? a (PI vs)) : h.IsList a vs.toArray := let ⟨o, e, c, n, d⟩ := x; ⟨o, e, c, n, d⟩
theorem At.tuple {h : Heap} {a : Addr} {vs : List Value} (x : At h.get? a (PT vs)) : h.IsTuple a vs.toArray := let ⟨o, e, c, n, d⟩ := x; ⟨o, e, c, n, d⟩
noncomputable def Old (O V : View) (a : Addr) (P : Obj → Prop) : Prop := At O a P ∨ At V a P
theorem Old.at {O V : View} {L : Addr} {m : Str → Option Value} {cl : List (Str × Addr)} {cv : Str → Option Value} {M : Led} {h : Heap} {a : Addr} {P : Obj → Prop} (x : Old O V a P) (S : St O V L m cl cv M h) : At h.get? a P :=
  x.elim S.getO S.getV
theorem Old.live {O V : View} {a : Addr} {P : Obj → Prop} (x : Old O V a P) : (∃ o, O a = some o) ∨ ∃ o, V a = some o :=
  x.elim (fun ⟨o, e, _⟩ => .inl ⟨o, e⟩) fun ⟨o, e, _⟩ => .inr ⟨o, e⟩
theorem Old.mono {O V : View} {a : Addr} {P P' : Obj → Prop} (x : Old O V a P) (h : ∀ o, P o → P' o) : Old O V a P' := x.imp (fun y => y.mono h) fun y => y.mono h
theorem Old.sub {O V V' : View} {a : Addr} {P : Obj → Prop} (x : Old O V a P) (h : Sub V V') : Old O V' a P := x.imp id fun y => y.sub h
/-- a source of n values: what its iterator is -/
structure IsSrc (prog : Program) (w : World) (A : Around) (O V : View) (n : Nat) (P : Nat → Value → Prop) (s₁ s : Shared) (I : Addr) (fp wr : List Addr) (Sti : Nat → Heap → Prop) : Prop where
  W : Walks prog w A I fp wr n P Sti
  k : Sub s₁.heap.get? s.heap.get?
  fr : ∀ b ∈ wr, s₁.heap.get? b = none
  nd : wr.Nodup
  st : Sti 0 s.heap
  live : ∀ i h, Sti i h → ∀ b ∈ wr, ∃ o, h.get? b = some o
  fp : ∀ b ∈ fp, b ∈ wr ∨ (∃ o, O b = some o) ∨ ∃ o, V b = some o
structure IsSrcP (prog : Program) (w : World) (A : Around) (O V : View) (n : Nat) (Pt : Nat → Value → Value → Prop) (s₁ s : Shared) (I : Addr) (fp wr : List Addr) (Pa : Nat → Array Value → Prop) (Sti : Nat → Heap → Prop) (Mid : Nat → Addr → Heap → Prop) : Prop where
  W : WalksT prog w A I fp wr n Pa Sti Mid
  k : Sub s₁.heap.get? s.heap.get?
  fr : ∀ b ∈ wr, s₁.heap.get? b = none
  nd : wr.Nodup
  st : Sti 0 s.heap
  live : ∀ i h, Sti i h → ∀ b ∈ wr, ∃ o, h.get? b = some o
  mid : ∀ i T h, Mid i T h → ∀ b ∈ wr, ∃ o, h.get? b = some o
  fp : ∀ b ∈ fp, b ∈ wr ∨ (∃ o, O b = some o) ∨ ∃ o, V b = some o
  two : ∀ i vals, Pa i vals → ∃ v0 v1, vals = #[v0, v1] ∧ Pt i v0 v1
section
variable {prog : Program} {w : World} {A : Around} {s : Shared} {E : Value → Shared → Prop} {env : Env} {O V : View} {L : Addr} {m : Str → Option Value} {cl cl' : List (Str × Addr)} {cv : Str → Option Value} {M : Led}
  {n : Nat} {P : Nat → Value → Prop} {Pt : Nat → Value → Value → Prop} {Q : Value → Shared → Prop}
theorem size_none {h : Heap} : h.get? h.objs.size = none := by
  cases e : h.get? h.objs.size with
  | none => rfl
  | some o => exact absurd (Heap.lt_size e) (Nat.lt_irrefl _)
noncomputable abbrev SrcQ (prog : Program) (w : World) (A : Around) (O V : View) (n : Nat) (P : Nat → Value → Prop) (s₁ : Shared) (Q : Value → Shared → Prop) : Prop :=
  ∀ I fp wr Sti h, IsSrc prog w A O V n P s₁ { s₁ with heap := h } I fp wr Sti → Q (.ref I) { s₁ with heap := h }
noncomputable abbrev SrcPQ (prog : Program) (w : World) (A : Around) (O V : View) (n : Nat) (Pt : Nat → Value → Value → Prop) (s₁ : Shared) (Q : Value → Shared → Prop) : Prop :=
  ∀ I fp wr Pa Sti Mid h, IsSrcP prog w A O V n Pt s₁ { s₁ with heap := h } I fp wr Pa Sti Mid → Q (.ref I) { s₁ with heap := h }
theorem src_list {ax : Addr} {vs : List Value} (hh : A.handled = none) (S : St O V L m cl cv M s.heap) (hx : Old O V ax (PI vs)) (h : SrcQ prog w A O V vs.length (fun i v => vs[i]? = some v) s Q) : wpAny (model prog w) A (pyIter (.ref ax)) Q E s := by
  have hl := (hx.at S).list
  have hlt : ax < s.heap.objs.size := by obtain ⟨o, e, _⟩ := hl; exact Heap.lt_size e
  have W : Walks prog w A s.heap.objs.size [s.heap.objs.size, ax] [s.heap.objs.size] vs.length (fun i v => vs[i]? = some v) (fun i h => h.IsListIter s.heap.objs.size ax i ∧ h.IsList ax vs.toArray) := by
    have := Walks.list (prog := prog) (w := w) hh s.heap.objs.size ax (Nat.ne_of_lt hlt) vs.toArray
    simpa using this
  refine wpAny_pyIter_list hl (h _ _ _ _ _ ⟨W, fun b o e => Heap.get?_push_of_some _ e, ?_, ?_, ⟨⟨_, Heap.get?_push_size _ rfl, rfl, rfl⟩, hl.push _⟩, ?_, ?_⟩)
  · intro b hb; rw [List.mem_singleton.mp hb]; exact size_none
  · simp
  · intro i h st b hb; rw [List.mem_singleton.mp hb]; obtain ⟨o, e, _⟩ := st.1; exact ⟨o, e⟩
  · intro b hb
    rcases List.mem_cons.mp hb with rfl | hb
    · exact .inl (by simp)
    · rw [List.mem_singleton.mp hb]; exact .inr hx.live
theorem src_tuple {ax : Addr} {vs : List Value} (hh : A.handled = none) (S : St O V L m cl cv M s.heap) (hx : Old O V ax (PT vs)) (h : SrcQ prog w A O V vs.length (fun i v => vs[i]? = some v) s Q) : wpAny (model prog w) A (pyIter (.ref ax)) Q E s := by
  have hl := (hx.at S).tuple
  have hlt : ax < s.heap.objs.size := by obtain ⟨o, e, _⟩ := hl; exact Heap.lt_size e
  have W : Walks prog w A s.heap.objs.size [s.heap.objs.size, ax] [s.heap.objs.size] vs.length (fun i v => vs[i]? = some v) (fun i h => h.IsTupleIter s.heap.objs.size ax i ∧ h.IsTuple ax vs.toArray) := by
    have := Walks.tuple (prog := prog) (w := w) hh s.heap.objs.size ax (Nat.ne_of_lt hlt) vs.toArray
    simpa using this
  refine wpAny_pyIter_tuple hl (h _ _ _ _ _ ⟨W, fun b o e => Heap.get?_push_of_some _ e, ?_, ?_, ⟨⟨_, Heap.get?_push_size _ rfl, rfl, rfl⟩, let ⟨o, e, r⟩ := hl; ⟨o, Heap.get?_push_of_some _ e, r⟩⟩, ?_, ?_⟩)
  · intro b hb; rw [List.mem_singleton.mp hb]; exact size_none
  · simp
  · intro i h st b hb; rw [List.mem_singleton.mp hb]; obtain ⟨o, e, _⟩ := st.1; exact ⟨o, e⟩
  · intro b hb
    rcases List.mem_cons.mp hb with rfl | hb
    · exact .inl (by simp)
    · rw [List.mem_singleton.mp hb]; exact .inr hx.live
theorem src_range {r : Addr} {a b c : Int} {t u v : Tok} (hh : A.handled = none) (hr : IsRange s.heap r a b c t u v) (hsmall : Builtin.Range.small a b c = true) (hn : Builtin.Range.rangeSize a b c = (n : Int))
    (h : SrcQ prog w A O V n (fun i v => ∃ t, v = .int (a + i * c) t) s Q) : wpAny (model prog w) A (pyIter (.ref r)) Q E s := by
  have W := Walks.range (prog := prog) (w := w) hh s.heap.objs.size a c n
  refine wpAny_pyIter_range hr hsmall (h _ _ _ _ _ ⟨W, fun b o e => Heap.get?_push_of_some _ e, ?_, ?_, ?_, ?_, fun b hb => .inl hb⟩)
  · intro b hb; rw [List.mem_singleton.mp hb]; exact size_none
  · simp
  · have e1 : a + ((0 : Nat) : Int) * c = a := by simp
    have e2 : (n : Int) - ((0 : Nat) : Int) = Builtin.Range.rangeSize a b c := by rw [hn]; simp
    rw [e1, e2]
    exact Heap.get?_push_size _ rfl
  · intro i h st b hb; rw [List.mem_singleton.mp hb]; exact ⟨_, st⟩
theorem PD.dictOf {h : Heap} {d : Addr} {kvs : List (Str × Value)} (x : At h.get? d (PD prog w kvs)) : h.DictOf (strKind prog w) d kvs := Heap.dictOf_iff.mpr x
theorem PD.dictAt {h : Heap} {d : Addr} {kvs : List (Str × Value)} (x : At h.get? d (PD prog w kvs)) : ∃ ep, h.DictAt (strKind prog w) d kvs ep := by
  obtain ⟨o, e, es, ep, r⟩ := x
  exact ⟨ep, o, es, e, r⟩
theorem src_keys {d : Addr} {kvs : List (Str × Value)} (hh : A.handled = none) (S : St O V L m cl cv M s.heap) (hd : (d == sysModules) = false) (hx : Old O V d (PD prog w kvs))
    (h : SrcQ prog w A O V kvs.length (fun i v => ∃ k x, kvs[i]? = some (k, x) ∧ (strKind prog w).is k v = true) s Q) : wpAny (model prog w) A (pyIter (.ref d)) Q E s := by
  obtain ⟨ep, hm⟩ := PD.dictAt (hx.at S)
  have hlt : d < s.heap.objs.size := hm.lt_size
  have W := Walks.dictKeys (prog := prog) (w := w) (knd := strKind prog w) hh s.heap.objs.size d (Nat.ne_of_lt hlt) kvs ep
  refine wpAny_pyIter_dict hd hm (h _ _ _ _ _ ⟨W, fun b o e => Heap.get?_push_of_some _ e, ?_, ?_, ⟨⟨_, Heap.get?_push_size _ rfl, rfl, rfl⟩, hm.at fun o e => Heap.get?_push_of_some _ e⟩, ?_, ?_⟩)
  · intro b hb; rw [List.mem_singleton.mp hb]; exact size_none
  · simp
  · intro i h st b hb; rw [List.mem_singleton.mp hb]; obtain ⟨o, e, _⟩ := st.1; exact ⟨o, e⟩
  · intro b hb
    rcases List.mem_cons.mp hb with rfl | hb
    · exact .inl (by simp)
    · rw [List.mem_singleton.mp hb]; exact .inr hx.live
theorem src_values {v d : Addr} {kvs : List (Str × Value)} (hh : A.handled = none) (S : St O V L m cl cv M s.heap) (hv : s.heap.IsValuesView v d) (hx : Old O V d (PD prog w kvs))
    (h : SrcQ prog w A O V kvs.length (fun i v => ∃ k, kvs[i]? = some (k, v)) s Q) : wpAny (model prog w) A (pyIter (.ref v)) Q E s := by
  obtain ⟨ep, hm⟩ := PD.dictAt (hx.at S)
  have hlt : d < s.heap.objs.size := hm.lt_size
  have W := Walks.dictValues (prog := prog) (w := w) (knd := strKind prog w) hh s.heap.objs.size d (Nat.ne_of_lt hlt) kvs ep
  refine wpAny_pyIter_values hv hm (h _ _ _ _ _ ⟨W, fun b o e => Heap.get?_push_of_some _ e, ?_, ?_, ⟨⟨_, Heap.get?_push_size _ rfl, rfl, rfl⟩, hm.at fun o e => Heap.get?_push_of_some _ e⟩, ?_, ?_⟩)
  · intro b hb; rw [List.mem_singleton.mp hb]; exact size_none
  · simp
  · intro i h st b hb; rw [List.mem_singleton.mp hb]; obtain ⟨o, e, _⟩ := st.1; exact ⟨o, e⟩
  · intro b hb
    rcases List.mem_cons.mp hb with rfl | hb
    · exact .inl (by simp)
    · rw [List.mem_singleton.mp hb]; exact .inr hx.live
theorem entry_itemiter_iter : entryFor table "dict_itemiterator.__iter__" = some Builtin.«dict_keyiterator.__iter__» :=
  entryFor_alias (id' := "dict_keyiterator.__iter__") (by kernel_rfl) rfl (by decide +kernel) (by kernel_rfl)
theorem walks_items {I d : Addr} {kvs : List (Str × Value)} {ep : Nat} (hh : A.handled = none) (hne : d ≠ I) :
    WalksT prog w A I [I, d] [I] kvs.length (fun i vals => ∃ k v key, kvs[i]? = some (k, v) ∧ (strKind prog w).is k key = true ∧ vals = #[key, v])
      (fun i h => (∃ ok ov, IsItemIter h I d i kvs.length ep ok ov) ∧ h.DictAt (strKind prog w) d kvs ep) (fun i T h => T ≠ I ∧ (∃ ok ov, IsItemIterOut h I d (i + 1) kvs.length ep ok ov T) ∧ h.DictAt (strKind prog w) d kvs ep) where
  sub := fun b hb => by simp at hb; simp [hb]
  frame := fun _ _ _ st hk => ⟨let ⟨ok, ov, e⟩ := st.1; ⟨ok, ov, hk I (by simp) _ e⟩, st.2.at fun o e => hk d (by simp) o e⟩
  item := fun i s Q E hi st hQ => by
    obtain ⟨⟨ok, ov, e⟩, hm⟩ := st
    obtain ⟨⟨k, x⟩, hx⟩ : ∃ p, kvs[i]? = some p := ⟨kvs[i], by simp [hi]⟩
    refine wpAny_pyNext_items_item e hm hx fun key h' hkey hout ht hz hk => ?_
    exact hQ _ #[key, x] h' s.toks ⟨k, x, key, hx, hkey, rfl⟩ (Nat.le_refl _) ⟨_, ht, rfl, _, rfl⟩ ⟨Nat.ne_of_gt (Heap.lt_size e), ⟨_, _, hout⟩, hm.at fun o e => hk d o hne e⟩ fun b o hb e => hk b o (fun h => hb (by simp [h])) e
  go := fun elts k pos i T s Q E hm hQ => by
    obtain ⟨hT, ⟨ok, ov, e⟩, hm⟩ := hm
    refine wpAny_letOwnedTupleGo_items e fun h' he' hs' => hQ h' ⟨⟨ok, ov, he'⟩, hm.extBut hs'.extBut hne⟩ fun b o hb e => hs'.extBut b o (fun h => hb (by simp [h])) e
  apart := fun i T h hm => by simpa using hm.1
  done := fun s Q E st hQ => by
    obtain ⟨⟨ok, ov, e⟩, hm⟩ := st
    exact wpAny_pyNext_items_end hh e hm (by simp) fun h' he' => hQ h' s.toks fun b o hb e => he' b o (fun h => hb (by simp [h])) e
  self := fun i s Q E st hQ => by
    obtain ⟨⟨ok, ov, e⟩, hm⟩ := st
    have hT : s.TypeIs (.ref I) "dict_itemiterator" := ⟨_, e, rfl⟩
    refine wpAny_pyIter_slot hT F.slot_dict_itemiterator_iter (wpAny_call_entry F.slot_dict_itemiterator_iter hT entry_itemiter_iter ?_ (F.args_dict_itemiterator_iter_1 _))
    show wpAny _ _ (ret (.ref I)) _ _ s
    exact wpAny_pure ⟨_, rfl, "dict_itemiterator", _, hT, F.slot_dict_itemiterator_next.lookup, hQ⟩
theorem src_items {v d : Addr} {kvs : List (Str × Value)} (hh : A.handled = none) (S : St O V L m cl cv M s.heap) (hv : s.heap.IsItemsView v d) (hx : Old O V d (PD prog w kvs))
    (h : SrcPQ prog w A O V kvs.length (fun i key v => ∃ k, kvs[i]? = some (k, v) ∧ (strKind prog w).is k key = true) s Q) : wpAny (model prog w) A (pyIter (.ref v)) Q E s := by
  obtain ⟨ep, hm⟩ := PD.dictAt (hx.at S)
  have hlt : d < s.heap.objs.size := hm.lt_size
  refine wpAny_pyIter_items hv hm (h _ _ _ _ _ _ _ ⟨walks_items (ep := ep) hh (Nat.ne_of_lt hlt), fun b o e => Heap.get?_push_of_some _ e, ?_, ?_, ⟨⟨_, _, Heap.get?_push_size _ rfl⟩, hm.at fun o e => Heap.get?_push_of_some _ e⟩, ?_, ?_, ?_, ?_⟩)
  · intro b hb; rw [List.mem_singleton.mp hb]; exact size_none
  · simp
  · intro i h st b hb; rw [List.mem_singleton.mp hb]; obtain ⟨_, _, e⟩ := st.1; exact ⟨_, e⟩
  · intro i T h st b hb; rw [List.mem_singleton.mp hb]; obtain ⟨_, _, e⟩ := st.2.1; exact ⟨_, e⟩
  · intro b hb
    rcases List.mem_cons.mp hb with rfl | hb
    · exact .inl (by simp)
    · rw [List.mem_singleton.mp hb]; exact .inr hx.live
  · rintro i vals ⟨k, v, key, a, b, rfl⟩; exact ⟨key, v, rfl, k, a, b⟩
/-- a loop over a source -/
theorem for_src {x : Str} {px : Pos} {body : List Stmt} {R : Result → Shared → Prop} {I : Addr} {fp wr : List Addr} {Sti : Nat → Heap → Prop} {h : Heap}
    (X : IsSrc prog w A O V n P s { s with heap := h } I fp wr Sti) (S : St O V L m cl cv M s.heap)
    (hx : env.kindOf x = some .local) (hk : env.scope.kind = .function) (hL : env.locals = L) (J : Inv) (h0 : J 0 V m cv M)
    (turn : ∀ i v V' m' cv' M' hb h tk, i < n → P i v → Sub V V' → J i V' m' cv' M' → St O V' L (fun y => if y = x then some v else m' y) cl cv' (own hb wr ++ M') h →
      wpAny (model prog w) A (execs body env) (Turned O V' L cl hb wr (J (i + 1)) s R) (fun _ _ => False) { s with heap := h, toks := tk })
    (done : ∀ V' m' cv' M' h tk, Sub V V' → J n V' m' cv' M' → St O V' L m' cl cv' M' h → R (.ok .next) { s with heap := h, toks := tk }) :
    codeAny (model prog w) A (.forLoop (.Name x px) (.ref I) body [] env) R { s with heap := h } :=
  for_name (s := { s with heap := h }) X.W hx hk hL S X.k X.fr X.nd X.st X.live X.fp J h0 turn done

theorem for_srcP {xk xv : Str} {pk pv pt : Pos} {x1 : Nat} {body : List Stmt} {R : Result → Shared → Prop} {I : Addr} {fp wr : List Addr} {Pa : Nat → Array Value → Prop} {Sti : Nat → Heap → Prop} {Mid : Nat → Addr → Heap → Prop} {h : Heap}
    (X : IsSrcP prog w A O V n Pt s { s with heap := h } I fp wr Pa Sti Mid) (S : St O V L m cl cv M s.heap) (hh : A.handled = none)
    (hxk : env.kindOf xk = some .local) (hxv : env.kindOf xv = some .local) (hk : env.scope.kind = .function) (hL : env.locals = L) (J : Inv) (h0 : J 0 V m cv M)
    (turn : ∀ i v0 v1 V' m' cv' M' hb h tk, i < n → Pt i v0 v1 → Sub V V' → J i V' m' cv' M' → St O V' L (fun y => if y = xv then some v1 else if y = xk then some v0 else m' y) cl cv' (own hb wr ++ M') h →
      wpAny (model prog w) A (execs body env) (Turned O V' L cl hb wr (J (i + 1)) s R) (fun _ _ => False) { s with heap := h, toks := tk })
    (done : ∀ V' m' cv' M' h tk, Sub V V' → J n V' m' cv' M' → St O V' L m' cl cv' M' h → R (.ok .next) { s with heap := h, toks := tk }) :
    codeAny (model prog w) A (.forLoop (.Tuple [.Name xk pk, .Name xv pv] x1 pt) (.ref I) body [] env) R { s with heap := h } :=
  for_pair (s := { s with heap := h }) hh X.W hxk hxv hk hL S X.k X.fr X.nd X.st X.live X.mid X.fp (fun i vals p => let ⟨v0, v1, e, _⟩ := X.two i vals p; ⟨v0, v1, e⟩) J h0
    (fun i v0 v1 V' m' cv' M' hb h tk hi hp => turn i v0 v1 V' m' cv' M' hb h tk hi (by obtain ⟨a, b, e, q⟩ := X.two i _ hp; cases e; exact q)) done

theorem lcE_src {elt iter : Expr} {x : Str} {px : Pos} {ifs : List Expr} {scope : Scope} {pos : Pos} {I : Addr} {fp wr : List Addr} {Sti : Nat → Heap → Prop} {h : Heap}
    (X : IsSrc prog w A O V n P s { s with heap := h } I fp wr Sti) (S : St O V env.locals m cl cv M s.heap)
    (hcell : ∀ y ∈ scope.names, y.2 ≠ .cell) (hkind : scope.kind = .function) (hx : scope.names.lookup x = some .local) (hsz : n ≤ sizeLine) (J : InvC) (h0 : J 0 V [])
    (turn : ∀ i v C D V' ys (mC : Str → Option Value) hb h tk, i < n → P i v → Sub V V' → J i V' ys → St O V' C (fun y => if y = x then some v else mC y) cl cv (cM env m D ys hb wr M) h →
      wpAny (model prog w) A (tests ifs (compEnvC scope cl' C env)) (fun ok s₃ => if ok = true then wpAny (model prog w) A (eval elt (compEnvC scope cl' C env)) (fun y => Elt O V' C cl cv (cM env m D ys hb wr M) (fun V'' => J (i + 1) V'' (ys ++ [y])) s) (fun _ _ => False) s₃
        else Elt O V' C cl cv (cM env m D ys hb wr M) (fun V'' => J (i + 1) V'' ys) s s₃) (fun _ _ => False) { s with heap := h, toks := tk })
    (done : ∀ D V' ys h tk, Sub V V' → J n V' ys → St O V' env.locals m cl cv ((D, PL ys) :: M) h → Q (.ref D) { s with heap := h, toks := tk }) :
    LcE prog w A env scope cl' (.ListComp elt [⟨.Name x px, iter, ifs, 0⟩] scope pos) E Q (.ref I) { s with heap := h } :=
  lc_core (s := { s with heap := h }) X.W hcell hkind hx hsz S X.k X.fr X.nd X.st X.live X.fp J h0 turn
    fun D C V' ys mC h tk hv hj S => post_E S fun h' S => done D V' ys h' tk hv hj S

theorem lcA_src {elt iter : Expr} {x y : Str} {px py : Pos} {ifs : List Expr} {scope : Scope} {pos : Pos} {I : Addr} {fp wr : List Addr} {Sti : Nat → Heap → Prop} {h : Heap} {Q : Flow → Shared → Prop}
    (X : IsSrc prog w A O V n P s { s with heap := h } I fp wr Sti) (S : St O V env.locals m cl cv M s.heap)
    (hcell : ∀ y ∈ scope.names, y.2 ≠ .cell) (hkind : scope.kind = .function) (hx : scope.names.lookup x = some .local) (hsz : n ≤ sizeLine) (hy : env.kindOf y = some .local) (hk : env.scope.kind = .function) (J : InvC) (h0 : J 0 V [])
    (turn : ∀ i v C D V' ys (mC : Str → Option Value) hb h tk, i < n → P i v → Sub V V' → J i V' ys → St O V' C (fun y => if y = x then some v else mC y) cl cv (cM env m D ys hb wr M) h →
      wpAny (model prog w) A (tests ifs (compEnvC scope cl' C env)) (fun ok s₃ => if ok = true then wpAny (model prog w) A (eval elt (compEnvC scope cl' C env)) (fun y => Elt O V' C cl cv (cM env m D ys hb wr M) (fun V'' => J (i + 1) V'' (ys ++ [y])) s) (fun _ _ => False) s₃
        else Elt O V' C cl cv (cM env m D ys hb wr M) (fun V'' => J (i + 1) V'' ys) s s₃) (fun _ _ => False) { s with heap := h, toks := tk })
    (done : ∀ D V' ys h tk, Sub V V' → J n V' ys → St O V' env.locals (fun z => if z = y then some (.ref D) else m z) cl cv ((D, PL ys) :: M) h → Q .next { s with heap := h, toks := tk }) :
    LcA prog w A env scope cl' (.ListComp elt [⟨.Name x px, iter, ifs, 0⟩] scope pos) (.Name y py) E Q (.ref I) { s with heap := h } :=
  lc_core (s := { s with heap := h }) X.W hcell hkind hx hsz S X.k X.fr X.nd X.st X.live X.fp J h0 turn
    fun D C V' ys mC h tk hv hj S => post_A S hy hk fun h' tk S => done D V' ys h' tk hv hj S
end
-- WhileS
section
variable {prog : Program} {w : World} {A : Around} {s : Shared} {E : Value → Shared → Prop} {env : Env} {O V : View} {L : Addr} {m : Str → Option Value} {cl cl' : List (Str × Addr)} {cv : Str → Option Value} {M : Led}
/-- the end of a while's turn: the invariant under a smaller measure -/
noncomputable def TurnedW (O V : View) (L : Addr) (cl : List (Str × Addr)) (J : Nat → View → (Str → Option Value) → (Str → Option Value) → Led → Prop) (n : Nat) (s : Shared) (R : Result → Shared → Prop) (f : Flow) (s' : Shared) : Prop :=
  match f with
  | .brk => R (.ok .next) s'
  | .ret v => R (.ok (.ret v)) s'
  | _ => ∃ j V' m' cv' M' h tk, j < n ∧ s' = { s with heap := h, toks := tk } ∧ Sub V V' ∧ St O V' L m' cl cv' M' h ∧ J j V' m' cv' M'

theorem TurnedW.go {J : Nat → View → (Str → Option Value) → (Str → Option Value) → Led → Prop} {n j : Nat} {R : Result → Shared → Prop} {V' : View} {m' cv' : Str → Option Value} {M' : Led} {h : Heap} {tk : Nat} (S : St O V' L m' cl cv' M' h) (hV : Sub V V') (hj : j < n) (q : J j V' m' cv' M') :
    TurnedW O V L cl J n s R .next { s with heap := h, toks := tk } := ⟨j, V', m', cv', M', h, tk, hj, rfl, hV, S, q⟩

theorem while_st {test : Expr} {body : List Stmt} {R : Result → Shared → Prop} (S : St O V L m cl cv M s.heap) (J : Inv) (n : Nat) (h0 : J n V m cv M)
    (turn : ∀ n V' m' cv' M' h tk, Sub V V' → J n V' m' cv' M' → St O V' L m' cl cv' M' h →
      wpAny (model prog w) A (isTrue test env (eval test env)) (fun b s₂ => if b = true then wpAny (model prog w) A (execs body env) (TurnedW O V' L cl J n s R) (fun _ _ => False) s₂ else R (.ok .next) s₂) (fun _ _ => False) { s with heap := h, toks := tk }) :
    codeAny (model prog w) A (.whileLoop test body [] env) R s := by
  refine codeAny_whileLoop (fun n s' => ∃ V' m' cv' M' h tk, s' = { s with heap := h, toks := tk } ∧ Sub V V' ∧ St O V' L m' cl cv' M' h ∧ J n V' m' cv' M') ?_ n ⟨V, m, cv, M, s.heap, s.toks, rfl, Sub.refl _, S, h0⟩
  rintro n s' ⟨V', m', cv', M', h, tk, rfl, hV, S', hJ⟩
  refine wpAny_mono (turn n V' m' cv' M' h tk hV hJ S') (fun b s₂ t => ?_) fun _ _ e => e.elim
  cases b with
  | false =>
    simp only [Bool.false_eq_true, if_false] at t ⊢
    exact wpAny_execs_nil t
  | true =>
    simp only [if_true] at t ⊢
    refine wpAny_mono t (fun f s₃ t => ?_) fun _ _ e => e.elim
    have fin : (∃ j V'' m'' cv'' M'' h tk, j < n ∧ s₃ = { s with heap := h, toks := tk } ∧ Sub V' V'' ∧ St O V'' L m'' cl cv'' M'' h ∧ J j V'' m'' cv'' M'') →
        ∃ j, j < n ∧ ∃ V' m' cv' M' h tk, s₃ = { s with heap := h, toks := tk } ∧ Sub V V' ∧ St O V' L m' cl cv' M' h ∧ J j V' m' cv' M' := by
      rintro ⟨j, V'', m'', cv'', M'', h₃, tk₃, hj, rfl, hV₃, S3, hJ₃⟩
      exact ⟨j, hj, V'', m'', cv'', M'', h₃, tk₃, rfl, hV.trans hV₃, S3, hJ₃⟩
    cases f with
    | next => exact fin t
    | cont => exact fin t
    | brk => exact t
    | ret v => exact t
end
-- Lines
/-- a list of ints, of texts -/
noncomputable def LI (ns : List Int) (o : Obj) : Prop := ∃ vs, PI vs o ∧ IntsAre vs ns
noncomputable def LS (xs : List Str) (o : Obj) : Prop := ∃ vs, PI vs o ∧ StrsAre vs xs
/-- pairs of a dict stand for pairs of plain data -/
inductive KvR {K β : Type} (nm : K → Str) (R : Value → β → Prop) : List (Str × Value) → List (K × β) → Prop
  | nil : KvR nm R [] []
  | cons {c : K} {v : Value} {b : β} {kvs : List (Str × Value)} {ps : List (K × β)} : R v b → KvR nm R kvs ps → KvR nm R ((nm c, v) :: kvs) ((c, b) :: ps)
noncomputable def isI (v : Value) (n : Int) : Prop := ∃ t, v = .int n t
noncomputable def isS {K : Type} (nm : K → Str) (v : Value) (c : K) : Prop := ∃ t, v = .str (nm c) t
/-- plain dicts as lists of pairs -/
noncomputable def getK {α β : Type} [DecidableEq α] (ps : List (α × β)) (k : α) : Option β := match ps with | [] => none | p :: r => if p.1 = k then some p.2 else getK r k
noncomputable def putK {α β : Type} [DecidableEq α] (ps : List (α × β)) (k : α) (v : β) : List (α × β) := match ps with | [] => [(k, v)] | p :: r => if p.1 = k then (k, v) :: r else p :: putK r k v
noncomputable def bumpK {α β : Type} [DecidableEq α] (add : β → β → β) (n : List (α × β)) (q : α × β) : List (α × β) := putK n q.1 (match getK n q.1 with | some u => add u q.2 | none => q.2)
noncomputable def addC {α β : Type} [DecidableEq α] (add : β → β → β) (ps qs : List (α × β)) : List (α × β) :=
  qs.foldl (bumpK add) (ps.foldl (fun n p => putK n p.1 p.2) [])
theorem bumpK_some {α β : Type} [DecidableEq α] {add : β → β → β} {n : List (α × β)} {q : α × β} {u : β} (h : getK n q.1 = some u) : bumpK add n q = putK n q.1 (add u q.2) := by unfold bumpK; rw [h]
theorem bumpK_none {α β : Type} [DecidableEq α] {add : β → β → β} {n : List (α × β)} {q : α × β} (h : getK n q.1 = none) : bumpK add n q = putK n q.1 q.2 := by unfold bumpK; rw [h]
noncomputable def KI {K : Type} (prog : Program) (w : World) (nm : K → Str) (ps : List (K × Int)) (o : Obj) : Prop := ∃ kvs, PD prog w kvs o ∧ KvR nm isI kvs ps
section
variable {K β γ : Type} [DecidableEq K] {nm : K → Str} {R R' : Value → β → Prop} {kvs : List (Str × Value)} {ps : List (K × β)}
theorem KvR.mono (h : ∀ v b, R v b → R' v b) (x : KvR nm R kvs ps) : KvR nm R' kvs ps := by
  induction x with
  | nil => exact .nil
  | cons r _ ih => exact .cons (h _ _ r) ih
theorem KvR.length (x : KvR nm R kvs ps) : kvs.length = ps.length := by
  induction x with
  | nil => rfl
  | cons _ _ ih => rw [List.length_cons, List.length_cons, ih]
theorem KvR.at (x : KvR nm R kvs ps) {i : Nat} {k : Str} {v : Value} (e : kvs[i]? = some (k, v)) : ∃ c b, ps[i]? = some (c, b) ∧ k = nm c ∧ R v b := by
  induction x generalizing i with
  | nil => cases e
  | cons r _ ih =>
    cases i with
    | zero => cases e; exact ⟨_, _, rfl, rfl, r⟩
    | succ i => exact ih e
theorem KvR.get (inj : ∀ a b, nm a = nm b → a = b) (x : KvR nm R kvs ps) (c : K) : (valueAt kvs (nm c) = none ∧ getK ps c = none) ∨ ∃ v b, valueAt kvs (nm c) = some v ∧ getK ps c = some b ∧ R v b := by
  induction x with
  | nil => exact .inl ⟨rfl, rfl⟩
  | @cons c' v b kvs ps r _ ih =>
    by_cases q : c' = c
    · subst q
      exact .inr ⟨v, b, by simp [valueAt], by simp [getK], r⟩
    · have q' : nm c' ≠ nm c := fun e => q (inj _ _ e)
      rcases ih with ⟨a, b'⟩ | ⟨v', b', a, b'', r'⟩
      · left; exact ⟨by simpa [valueAt, List.find?_cons, q'] using a, by simpa [getK, q] using b'⟩
      · right; exact ⟨v', b', by simpa [valueAt, List.find?_cons, q'] using a, by simpa [getK, q] using b'', r'⟩
theorem stored_cons (k' : Str) (v' : Value) (kvs : List (Str × Value)) (k : Str) (v : Value) (hn : (((k', v') :: kvs).map (·.1)).Nodup) : stored ((k', v') :: kvs) k v = if k' = k then (k, v) :: kvs else (k', v') :: stored kvs k v := by
  have h1 := (List.nodup_cons.mp hn).1
  unfold stored
  by_cases q : k' = k
  · subst q
    rw [if_pos rfl, if_pos (by simp), List.map_cons, if_pos rfl]
    congr 1
    have : ∀ p ∈ kvs, (if p.1 = k' then (p.1, v) else p) = p := fun p hp => by
      rw [if_neg]
      intro e
      exact h1 (e ▸ List.mem_map_of_mem (f := (·.1)) hp)
    rw [List.map_congr_left this, List.map_id']
  · rw [if_neg q]
    have e : ((k', v') :: kvs).any (fun kv => decide (kv.1 = k)) = kvs.any fun kv => decide (kv.1 = k) := by simp [q]
    rw [e]
    by_cases z : (kvs.any fun kv => decide (kv.1 = k)) = true
    · rw [if_pos z, if_pos z, List.map_cons, if_neg q]
    · rw [if_neg z, if_neg z]; rfl
theorem KvR.put (inj : ∀ a b, nm a = nm b → a = b) (x : KvR nm R kvs ps) (hn : (kvs.map (·.1)).Nodup) (c : K) {v : Value} {b : β} (r : R v b) : KvR nm R (stored kvs (nm c) v) (putK ps c b) := by
  induction x with
  | nil => exact .cons r .nil
  | @cons c' v' b' kvs ps r' x ih =>
    rw [stored_cons _ _ _ _ _ hn]
    by_cases q : c' = c
    · subst q
      rw [if_pos rfl]
      simp only [putK, if_true]
      exact .cons r x
    · have q' : nm c' ≠ nm c := fun e => q (inj _ _ e)
      rw [if_neg q']
      simp only [putK, if_neg q]
      exact .cons r' (ih (List.nodup_cons.mp hn).2)
theorem putK_length (ps : List (K × β)) (c : K) (b : β) : (putK ps c b).length ≤ ps.length + 1 := by
  induction ps with
  | nil => simp [putK]
  | cons p r ih => simp only [putK]; split <;> simp only [List.length_cons] <;> omega
theorem foldPut_length {γ : Type} (f : List (K × β) → γ → K) (g : List (K × β) → γ → β) (xs : List γ) (n : List (K × β)) : (xs.foldl (fun n x => putK n (f n x) (g n x)) n).length ≤ n.length + xs.length := by
  induction xs generalizing n with
  | nil => simp
  | cons x r ih =>
    rw [List.foldl_cons]
    have h1 := ih (putK n (f n x) (g n x))
    have h2 := putK_length n (f n x) (g n x)
    rw [List.length_cons]
    omega
theorem foldBump_length (add : β → β → β) (xs : List (K × β)) (n : List (K × β)) : (xs.foldl (bumpK add) n).length ≤ n.length + xs.length := by
  induction xs generalizing n with
  | nil => simp
  | cons x r ih =>
    rw [List.foldl_cons]
    have h1 := ih (bumpK add n x)
    have h2 : (bumpK add n x).length ≤ n.length + 1 := putK_length n x.1 _
    rw [List.length_cons]
    omega
theorem fold_take {α γ : Type} (f : α → γ → α) (a : α) (xs : List γ) {i : Nat} {x : γ} (h : xs[i]? = some x) : (xs.take (i + 1)).foldl f a = f ((xs.take i).foldl f a) x := by
  rw [List.take_add_one, h, List.foldl_append]; rfl
theorem PD.nodup {prog : Program} {w : World} {o : Obj} (x : PD prog w kvs o) : (kvs.map (·.1)).Nodup := let ⟨_, _, _, _, _, _, n⟩ := x; n
theorem str_key {prog : Program} {w : World} {k : Str} {v : Value} (e : (PySem.strKind prog w).is k v = true) : ∃ t, v = .str k t := Value.isStrOf_shape e
end
section
variable {prog : Program} {w : World} {A : Around} {E : Value → Shared → Prop} {s : Shared} {O V : View} {L : Addr} {m : Str → Option Value} {cl : List (Str × Addr)} {cv : Str → Option Value} {M : Led}
theorem LI.list {h : Heap} {a : Addr} {ns : List Int} (x : At h.get? a (LI ns)) : ∃ vs, h.IsList a vs.toArray ∧ IntsAre vs ns := let ⟨o, e, vs, p, i⟩ := x; ⟨vs, At.list ⟨o, e, p⟩, i⟩
theorem LS.list {h : Heap} {a : Addr} {xs : List Str} (x : At h.get? a (LS xs)) : ∃ vs, h.IsList a vs.toArray ∧ StrsAre vs xs := let ⟨o, e, vs, p, i⟩ := x; ⟨vs, At.list ⟨o, e, p⟩, i⟩
theorem inS {l : Addr} {xs : List Str} {x : Str} {t : Tok} {Q : Value → Shared → Prop} (S : St O V L m cl cv M s.heap) (hl : Old O V l (LS xs)) (h : Q (.bool (xs.any (· == x))) s) :
    wpAny (model prog w) A (compareOp .In (.str x t) (.ref l)) Q E s :=
  let ⟨_, a, b⟩ := LS.list (hl.at S); in_list_strs a (by simpa using b) h
end
local macro_rules | `(tactic| walk_at "my_enter") => `(tactic| (
  (case ho => k_is); (case hcd => k_is); (case hbind => rfl); (case hkind => rfl); (case hnd => decide); (case hm => intro _; rfl); (case hc => intro _; rfl); (case c1 => rfl); (case c2 => rfl); (case c3 => rfl)))
local macro_rules | `(tactic| walk_at "val") => `(tactic| first | rfl | assumption)
local macro_rules | `(tactic| walk_at "eval Name") => `(tactic| (
  (rename St _ _ _ _ _ _ _ _ => S9);
  with_unfolding_all (first
  | (refine' ldS S9 ?l ?a ?b ?v ?_; (case l => rfl); (case a => rfl); (case b => rfl); (case v => walk_at "val"))
  | (refine' ldC S9 ?a ?b ?c ?d ?v ?_; (case a => rfl); (case b => rfl); (case c => rfl); (case d => rfl); (case v => walk_at "val"))
  | (refine' ldG ?C S9 ?hb ?a ?g ?b ?e ?_; (case a => rfl); (case g => rfl); (case b => rfl); (case C => assumption); (case hb => assumption); (case e => k_is))
  | (refine' ldB ?C S9 ?hb ?a ?g ?u ?b ?e ?v ?n ?_; (case a => rfl); (case g => rfl); (case u => rfl); (case b => rfl); (case C => assumption); (case hb => assumption); (case e => k_is); (case v => boot_by_name); (case n => decide)))))
local macro_rules | `(tactic| walk_at "loadName") => `(tactic| (
  (rename St _ _ _ _ _ _ _ _ => S9);
  with_unfolding_all (first
  | (refine' lnS S9 ?l ?a ?b ?v ?_; (case l => rfl); (case a => rfl); (case b => rfl); (case v => walk_at "val"))
  | (refine' lnC S9 ?a ?b ?c ?d ?v ?_; (case a => rfl); (case b => rfl); (case c => rfl); (case d => rfl); (case v => walk_at "val")))))
local macro_rules | `(tactic| walk_at "storeName") => `(tactic| (
  (rename St _ _ _ _ _ _ _ _ => S9);
  with_unfolding_all (first
  | (refine' stS S9 ?l ?a ?b ?_; (case l => rfl); (case a => rfl); (case b => rfl))
  | (refine' stC S9 ?a ?b ?c ?d ?_; (case a => rfl); (case b => rfl); (case c => rfl); (case d => rfl)));
  clear S9; intro h' S))
local macro_rules | `(tactic| walk_at "binaryOp FloorDiv int int") => `(tactic| (refine' PyProof.Rows.floordiv_int ?ne ?_ ?lo; (case ne => first | assumption | omega); (case lo => exact Or.inl (PyProof.noPylong_small (by first | assumption | omega)))))
local macro_rules | `(tactic| walk_at "exec For") => `(tactic| (refine' wpAny_For ?_ ?lit; (case lit => intro _; rfl)))
local macro_rules | `(tactic| walk_at "exec While") => `(tactic| refine wpAny_While ?_)
local macro_rules | `(tactic| walk_at "binaryOp Mod int int") => `(tactic| (refine' PyProof.Rows.mod_int' ?ne ?_; (case ne => first | assumption | omega)))
local macro_rules | `(tactic| walk_at "my_end") => `(tactic| (
  (with_reducible show Keeps _ _ ∧ _);
  (rename St _ _ _ _ _ _ _ _ => S9);
  refine' ⟨St.keeps S9 ?sub, ?_⟩;
  (case sub => first | exact Sub.refl _ | assumption)))
local macro_rules | `(tactic| walk_at "go") => `(tactic| repeat' (first | walk_at "my_end" | walk1 | (dsimp only; walk1)))
local macro_rules | `(tactic| walk_at "old") => `(tactic| first | assumption | exact .inl (by assumption) | exact .inr (by assumption))
local macro_rules | `(tactic| walk_at "compareOp In str ref") => `(tactic| ((rename St _ _ _ _ _ _ _ _ => S9); refine' inS S9 ?o ?_; (case o => walk_at "old")))
-- DictS
section
variable {prog : Program} {w : World} {A : Around} {E : Value → Shared → Prop} {s : Shared} {O V : View} {L : Addr} {m : Str → Option Value} {cl : List (Str × Addr)} {cv : Str → Option Value} {M : Led} {env : Env}
  {d : Addr} {kvs : List (Str × Value)} {k : Str} {tk : Tok}
theorem low {h : Heap} {a : Addr} (x : h.get? 3 ≠ none) (e : h.get? a = none) (hs : h.objs.size ≤ a) : (a == sysModules) = false := by
  have : 3 < h.objs.size := by
    cases q : h.get? 3 with
    | none => exact absurd q x
    | some o => exact Heap.lt_size q
  refine beq_eq_false_iff_ne.mpr fun q => ?_
  rw [q] at hs
  exact absurd (Nat.lt_of_lt_of_le this hs) (by decide)
/-- a dict stands here -/
theorem dGetMethod {nm : Str} {id : String} {pl : Sem Bool} {Q : Value × List Value → Shared → Prop} (hd : At s.heap.get? d (PD prog w kvs)) (slot : Slot "dict" nm id) (hty : typeOf (.builtin id) = pure (.type "method_descriptor")) (h : Q (.builtin id, [.ref d]) s) :
    wpAny (model prog w) A (getMethod (.ref d) nm pl) Q E s :=
  getMethod_builtin (PD.dictOf hd).typeIs F.plainAttrs_dict slot hty (PD.dictOf hd).mapOf.noDict h

theorem dItems {Q : Value → Shared → Prop} (hd : At s.heap.get? d (PD prog w kvs)) (hds : (d == sysModules) = false) (S : St O V L m cl cv M s.heap)
    (h : ∀ v h', h'.IsItemsView v d → St O V L m cl cv M h' → Q (.ref v) { s with heap := h' }) : wpAny (model prog w) A (call (.builtin "dict.items") [.ref d]) Q E s := by
  have hm := PD.dictOf hd
  refine call_meetsIn F.slot_dict_items hm.typeIs F.entry_dict_items (F.args_dict_items_1 _) (meets_dict_items (strKind prog w) d hds) ⟨⟨kvs, hm⟩, ?_⟩
  exact h _ _ ⟨_, Heap.get?_push_size _ rfl, rfl, rfl⟩ (S.grown fun b o e => Heap.get?_push_of_some _ e)
theorem dValues {Q : Value → Shared → Prop} (hd : At s.heap.get? d (PD prog w kvs)) (hds : (d == sysModules) = false) (S : St O V L m cl cv M s.heap)
    (h : ∀ v h', h'.IsValuesView v d → St O V L m cl cv M h' → Q (.ref v) { s with heap := h' }) : wpAny (model prog w) A (call (.builtin "dict.values") [.ref d]) Q E s := by
  have hm := PD.dictOf hd
  refine call_meetsIn F.slot_dict_values hm.typeIs F.entry_dict_values (F.args_dict_values_1 _) (meets_dict_values (strKind prog w) d hds) ⟨⟨kvs, hm⟩, ?_⟩
  exact h _ _ ⟨_, Heap.get?_push_size _ rfl, rfl, rfl⟩ (S.grown fun b o e => Heap.get?_push_of_some _ e)
theorem dGet2 {dflt : Value} {Q : Value → Shared → Prop} (hd : At s.heap.get? d (PD prog w kvs)) (hds : (d == sysModules) = false) (h : Q ((valueAt kvs k).getD dflt) { s with toks := s.toks + 1 }) :
    wpAny (model prog w) A (call (.builtin "dict.get") [.ref d, .str k tk, dflt]) Q E s := by
  have hm := PD.dictOf hd
  exact call_meetsIn F.slot_dict_get hm.typeIs F.entry_dict_get (F.args_dict_get_3 _ _ _) (meets_dict_get_default (strKind prog w) d (strKind_is prog w k tk) hds dflt) ⟨_, hm.mapOf, h⟩
theorem dItem {v : Value} {Q : Value → Shared → Prop} (hd : At s.heap.get? d (PD prog w kvs)) (hv : valueAt kvs k = some v) (h : Q v { s with toks := s.toks + 1 }) : wpAny (model prog w) A (getItem (.ref d) (.str k tk)) Q E s := by
  have hm := PD.dictOf hd
  exact wpAny_getItem_of (knd := strKind prog w) (strKind_is prog w k tk) hm.mapOf hv h
theorem dTail {v : Value} {value slice : Expr} {Q : Value → Shared → Prop} (hd : At s.heap.get? d (PD prog w kvs)) (hv : valueAt kvs k = some v) (h : Q v { s with toks := s.toks + 1 })
    (hs : subscripted slice false (.ref d) (.str k tk) = operate [.ref d, .str k tk] (getItem (.ref d) (.str k tk)) := by with_unfolding_all rfl) : wpAny (model prog w) A (subscriptTail value slice (.ref d) (.str k tk)) Q E s :=
  tail_any (PD.dictOf hd).typeIs slot_dict_getitem.lookup (dItem hd hv h) hs
theorem dIn {Q : Value → Shared → Prop} (hd : At s.heap.get? d (PD prog w kvs)) (hds : (d == sysModules) = false) (h : Q (.bool (valueAt kvs k).isSome) { s with toks := s.toks + 1 }) : wpAny (model prog w) A (compareOp .In (.str k tk) (.ref d)) Q E s := by
  have hm := PD.dictOf hd
  show wpAny _ _ (do return .bool (← contains (.ref d) (.str k tk))) Q E s
  refine wpAny_bind ?_
  unfold contains
  refine wpAny_holding ?_
  refine wpAny_bind (wpAny_specialOf hm.typeIs slot_dict_contains.lookup ?_)
  rw [if_neg (by decide)]
  exact wpAny_bind (wpAny_callSpecialUnlessNone?_slot (name := Str.ofString "__contains__") hm.typeIs slot_dict_contains
    (call_meetsIn F.slot_dict_contains hm.typeIs F.entry_dict_contains (F.args_dict_contains_2 _ _) (meets_dict_contains (strKind prog w) d (strKind_is prog w k tk) hds) ⟨_, hm.mapOf, wpAny_truthy_bool (wpAny_pure h)⟩))
theorem dSet {v : Value} {Q : Unit → Shared → Prop} {pre post : Led} {P : Obj → Prop} (S : St O V L m cl cv M s.heap) (hM : M = pre ++ (d, P) :: post) (hP : ∀ o, P o → PD prog w kvs o)
    (h : ∀ h', St O V L m cl cv (pre ++ (d, PD prog w (stored kvs k v)) :: post) h' → Q () { s with heap := h', toks := s.toks + 1 }) (hsz : kvs.length ≤ sizeLine) : wpAny (model prog w) A (setItem (.ref d) (.str k tk) v) Q E s := by
  have hd : At s.heap.get? d (PD prog w kvs) := (S.getM (P := P) (hM ▸ List.mem_append_right _ (.head _))).mono hP
  refine wpAny_setItem_pairs (hsz := hsz) (strKind_is prog w k tk) (PD.dictOf hd) fun h' hm hs => h h' ?_
  exact S.turn hM (Heap.dictOf_iff.mp hm) hs
theorem dEmpty {pos : Pos} {Q : Value → Shared → Prop} (S : St O V L m cl cv M s.heap) (hb : O 3 ≠ none)
    (h : ∀ d h', (d == sysModules) = false → St O V L m cl cv ((d, PD prog w []) :: M) h' → Q (.ref d) { s with heap := h' }) : wpAny (model prog w) A (eval (.Dict [] [] pos) env) Q E s := by
  refine wpAny_Dict_empty (h _ _ ?_ (S.alloc _ ?_))
  · refine low ?_ size_none (Nat.le_refl _)
    cases q : O 3 with
    | none => exact absurd q hb
    | some o => rw [S.keepO _ _ q]; simp
  · obtain ⟨o, ho, hd⟩ := Heap.dictOf_iff.mp (Heap.DictOf.new (knd := strKind prog w) s.heap)
    rw [Heap.get?_push_size _ rfl] at ho
    exact (Option.some.inj ho) ▸ hd
end
-- Lines2
local macro_rules | `(tactic| walk_at "at9") => `(tactic| first | exact Old.at (by assumption) (by assumption) | exact Old.at (.inl (by assumption)) (by assumption) | exact Old.at (.inr (by assumption)) (by assumption) | exact St.getM (by assumption) (.head _) | exact St.getM (by assumption) (.tail _ (.head _)) | exact St.getM (by assumption) (List.mem_append_right _ (.head _)) | exact St.getM (by assumption) (List.mem_append_right _ (.tail _ (.head _))))
local macro_rules | `(tactic| walk_at "getMethod ref") => `(tactic| ((rename St _ _ _ _ _ _ _ _ => S9); first
  | (refine' dGetMethod ?h F.slot_dict_values F.type_dict_values ?_; (case h => walk_at "at9"))
  | (refine' dGetMethod ?h F.slot_dict_items F.type_dict_items ?_; (case h => walk_at "at9"))
  | (refine' dGetMethod ?h F.slot_dict_get F.type_dict_get ?_; (case h => walk_at "at9"))))
local macro_rules | `(tactic| walk_at "call builtin:dict.values") => `(tactic| ((rename St _ _ _ _ _ _ _ _ => S9); (refine' dValues ?h ?s S9 ?_; (case h => walk_at "at9"); (case s => assumption)); clear S9; intro v9 h9 hv9 S))
local macro_rules | `(tactic| walk_at "call builtin:dict.items") => `(tactic| ((rename St _ _ _ _ _ _ _ _ => S9); (refine' dItems ?h ?s S9 ?_; (case h => walk_at "at9"); (case s => assumption)); clear S9; intro v9 h9 hv9 S))
local macro_rules | `(tactic| walk_at "call builtin:dict.get") => `(tactic| ((refine' dGet2 ?h ?s ?_; (case h => walk_at "at9"); (case s => assumption))))
local macro_rules | `(tactic| walk_at "compareOp In str ref") => `(tactic| ((rename St _ _ _ _ _ _ _ _ => S9); first
  | (refine' inS S9 ?o ?_; (case o => walk_at "old"))
  | (refine' dIn ?h ?s ?_; (case h => walk_at "at9"); (case s => assumption))))
local macro_rules | `(tactic| walk_at "eval Dict nil nil") => `(tactic| ((rename St _ _ _ _ _ _ _ _ => S9); (refine' dEmpty S9 ?h ?_; (case h => assumption)); clear S9; intro d9 h9 hs9 S))
-- Fn1
theorem fill1 : PySem.Challenge.rw_xo0013_01 = PySem.Challenge.rw_xo0013_01 ∧ hd.heap_39 = hd.heap_39 := by
  k_fill
  exact ⟨rfl, rfl⟩
section
variable {prog : Program} {w : World} {mean : ExcName → Option Value} {mg mb : Str → Option Value} {base : Heap} {A : Around} {s : Shared}
set_option maxHeartbeats 4000000
theorem mul_c {x y : Int} {t u : Tok} (C : Cx w mean mg mb base) (hb0 : Sub base.get? s.heap.get?) (R : Room A 1) (hx : x.natAbs < 2 ^ 60) :
    Does prog w A (call (.ref 71) [.int x t, .int y u]) (fun _ v => ∃ t, v = .int (x * y) t) s := by
  refine' enter (binds := [("a", .int x t), ("b", .int y u)]) (m := fun z => if z = "b" then some (.int y u) else if z = "a" then some (.int x t) else none) (cv := fun _ => none) C hb0 R ?ho ?hcd ?hbind ?hkind ?hnd ?hm ?hc ?h ?c1 ?c2 ?c3
  walk_at "my_enter"
  intro L h₁ tk S
  walk_at "go"
theorem mod_c {x y : Int} {t u : Tok} (C : Cx w mean mg mb base) (hb0 : Sub base.get? s.heap.get?) (R : Room A 1) (hy : y ≠ 0) :
    Does prog w A (call (.ref 64) [.int x t, .int y u]) (fun _ v => ∃ t, v = .int (x.fmod y) t) s := by
  refine' enter (binds := [("a", .int x t), ("b", .int y u)]) (m := fun z => if z = "b" then some (.int y u) else if z = "a" then some (.int x t) else none) (cv := fun _ => none) C hb0 R ?ho ?hcd ?hbind ?hkind ?hnd ?hm ?hc ?h ?c1 ?c2 ?c3
  walk_at "my_enter"
  intro L h₁ tk S
  walk_at "go"
theorem floordiv_c {x y : Int} {t u : Tok} (C : Cx w mean mg mb base) (hb0 : Sub base.get? s.heap.get?) (R : Room A 1) (hx : y.natAbs < 1073741824) (hy : y ≠ 0) :
    Does prog w A (call (.ref 57) [.int x t, .int y u]) (fun _ v => ∃ t, v = .int (x.fdiv y) t) s := by
  refine' enter (binds := [("a", .int x t), ("b", .int y u)]) (m := fun z => if z = "b" then some (.int y u) else if z = "a" then some (.int x t) else none) (cv := fun _ => none) C hb0 R ?ho ?hcd ?hbind ?hkind ?hnd ?hm ?hc ?h ?c1 ?c2 ?c3
  walk_at "my_enter"
  intro L h₁ tk S
  walk_at "go"
theorem iadd_c {x y : Int} {t u : Tok} (C : Cx w mean mg mb base) (hb0 : Sub base.get? s.heap.get?) (R : Room A 1) :
    Does prog w A (call (.ref 99) [.int x t, .int y u]) (fun _ v => ∃ t, v = .int (x + y) t) s := by
  refine' enter (binds := [("a", .int x t), ("b", .int y u)]) (m := fun z => if z = "b" then some (.int y u) else if z = "a" then some (.int x t) else none) (cv := fun _ => none) C hb0 R ?ho ?hcd ?hbind ?hkind ?hnd ?hm ?hc ?h ?c1 ?c2 ?c3
  walk_at "my_enter"
  intro L h₁ tk S
  walk_at "go"
theorem contains_c {l : Addr} {xs : List Str} {x : Str} {t : Tok} (C : Cx w mean mg mb base) (hb0 : Sub base.get? s.heap.get?) (R : Room A 1) (hl : At s.heap.get? l (LS xs)) :
    Does prog w A (call (.ref 85) [.ref l, .str x t]) (fun _ v => v = .bool (xs.any (· == x))) s := by
  refine' enter (binds := [("a", .ref l), ("b", .str x t)]) (m := fun z => if z = "b" then some (.str x t) else if z = "a" then some (.ref l) else none) (cv := fun _ => none) C hb0 R ?ho ?hcd ?hbind ?hkind ?hnd ?hm ?hc ?h ?c1 ?c2 ?c3
  walk_at "my_enter"
  intro L h₁ tk S
  walk_at "go"
theorem countOf_c {l : Addr} {bs : List Bool} (C : Cx w mean mg mb base) (hb0 : Sub base.get? s.heap.get?) (R : Room A 1) (hl : At s.heap.get? l (PL (bs.map .bool))) :
    Does prog w A (call (.ref 92) [.ref l, .bool true]) (fun _ v => ∃ t, v = .int (bs.count true) t) s := by
  refine' enter (binds := [("a", .ref l), ("b", .bool true)]) (m := fun z => if z = "b" then some (.bool true) else if z = "a" then some (.ref l) else none) (cv := fun _ => none) C hb0 R ?ho ?hcd ?hbind ?hkind ?hnd ?hm ?hc ?h ?c1 ?c2 ?c3
  walk_at "my_enter"
  intro L h₁ tk S
  walk_at "go"
  rename St _ _ _ _ _ _ _ _ => S
  refine src_list R.h S (.inl (hl.mono fun _ x => x.pi)) fun I fp wr Sti h X => ?_
  refine for_src X S rfl rfl rfl (fun i V m cv M => M = [] ∧ (∃ t, m "count" = some (.int ((bs.take i).count true) t)) ∧ m "b" = some (.bool true)) ⟨rfl, ⟨_, rfl⟩, rfl⟩ ?turn ?done
  case done =>
    rintro V' m' cv' M' h tk hV ⟨rfl, ⟨t, h1⟩, h2⟩ S
    clear X
    rw [List.length_map, List.take_length] at h1
    walk_at "go"
  rintro i v V' m' cv' M' hb h tk hi hv hV ⟨rfl, ⟨t, h1⟩, h2⟩ S
  clear X
  obtain ⟨c, rfl, hc⟩ : ∃ c, v = .bool c ∧ bs[i]? = some c := by
    rw [List.getElem?_map] at hv
    cases q : bs[i]? with
    | none => rw [q] at hv; cases hv
    | some c => rw [q] at hv; exact ⟨c, (Option.some.inj hv).symm, rfl⟩
  have hs : (bs.take (i + 1)).count true = (bs.take i).count true + if c = true then 1 else 0 := by
    rw [List.take_add_one, hc, List.count_append]
    cases c <;> rfl
  cases c
  · walk_at "go"
    rename St _ _ _ _ _ _ _ _ => S
    exact Turned.go S (Sub.refl _) ⟨rfl, ⟨t, by rw [hs]; exact h1⟩, h2⟩
  · walk_at "go"
    rename St _ _ _ _ _ _ _ _ => S
    exact Turned.go S (Sub.refl _) ⟨rfl, ⟨_, by rw [hs]; rfl⟩, h2⟩
end
-- Fn2
section
variable {prog : Program} {w : World} {mean : ExcName → Option Value} {mg mb : Str → Option Value} {base : Heap} {A : Around} {s : Shared}
set_option maxHeartbeats 4000000
variable {K : Type} [DecidableEq K] {nm : K → Str}
theorem count_calls_c {d : Addr} {ps : List (K × Int)} (C : Cx w mean mg mb base) (hb0 : Sub base.get? s.heap.get?) (R : Room A 1) (hd : (d == sysModules) = false) (hl : At s.heap.get? d (KI prog w nm ps)) :
    Does prog w A (call (.ref 120) [.ref d]) (fun _ v => ∃ t, v = .int ((ps.map (·.2)).sum) t) s := by
  refine' enter (binds := [("callers", .ref d)]) (m := fun z => if z = "callers" then some (.ref d) else none) (cv := fun _ => none) C hb0 R ?ho ?hcd ?hbind ?hkind ?hnd ?hm ?hc ?h ?c1 ?c2 ?c3
  walk_at "my_enter"
  intro L h₁ tk S
  obtain ⟨o, ho, kvs, hk, hk1⟩ := hl
  have hO : At s.heap.get? d (PD prog w kvs) := ⟨o, ho, hk⟩
  walk_at "go"
  rename St _ _ _ _ _ _ _ _ => S
  rename Heap.IsValuesView _ _ _ => hv
  refine src_values R.h S hv (.inl hO) fun I fp wr Sti h X => ?_
  refine for_src X S rfl rfl rfl (fun i V m cv M => M = [] ∧ (∃ t, m "nc" = some (.int (((ps.map (·.2)).take i).sum) t))) ⟨rfl, ⟨_, rfl⟩⟩ ?turn ?done
  case done =>
    rintro V' m' cv' M' h tk hV ⟨rfl, ⟨t, h1⟩⟩ S
    clear X
    rw [show kvs.length = (ps.map (·.2)).length by rw [hk1.length, List.length_map], List.take_length] at h1
    walk_at "go"
  rintro i v V' m' cv' M' hb h tk hi ⟨k, hv⟩ hV ⟨rfl, ⟨t, h1⟩⟩ S
  clear X
  obtain ⟨c, n, hn, rfl, t', rfl⟩ := hk1.at hv
  walk_at "go"
  rename St _ _ _ _ _ _ _ _ => S
  exact Turned.go S (Sub.refl _) ⟨rfl, ⟨_, by rw [List.take_add_one, List.getElem?_map, hn, List.sum_append]; simp; rfl⟩⟩
theorem add_callers_c {d e : Addr} {ps qs : List (K × Int)} (C : Cx w mean mg mb base) (hb0 : Sub base.get? s.heap.get?) (R : Room A 1) (inj : ∀ a b, nm a = nm b → a = b) (hd : (d == sysModules) = false) (he : (e == sysModules) = false) (hl : At s.heap.get? d (KI prog w nm ps)) (hl' : At s.heap.get? e (KI prog w nm qs)) (hz : ps.length + qs.length ≤ 1000) :
    Does prog w A (call (.ref 113) [.ref d, .ref e]) (fun V v => ∃ a, v = .ref a ∧ (a == sysModules) = false ∧ At V a (KI prog w nm (addC (· + ·) ps qs))) s := by
  refine' enter (binds := [("target", .ref d), ("source", .ref e)]) (m := fun z => if z = "source" then some (.ref e) else if z = "target" then some (.ref d) else none) (cv := fun _ => none) C hb0 R ?ho ?hcd ?hbind ?hkind ?hnd ?hm ?hc ?h ?c1 ?c2 ?c3
  walk_at "my_enter"
  intro L h₁ tk S
  obtain ⟨o, ho, kvs, hk, hk1⟩ := hl
  obtain ⟨o', ho', kvs', hk', hk1'⟩ := hl'
  have hO : At s.heap.get? d (PD prog w kvs) := ⟨o, ho, hk⟩
  have hO' : At s.heap.get? e (PD prog w kvs') := ⟨o', ho', hk'⟩
  have hb3 : s.heap.get? 3 ≠ none := by rw [hb0 _ _ (C.X _ _ (by k_is))]; simp
  walk_at "go"
  rename St _ _ _ _ _ _ _ _ => S
  rename Heap.IsItemsView _ _ _ => hv
  rename (_ == sysModules) = false => hds
  refine src_items R.h S hv (.inl hO) fun I fp wr Pa Sti Mid h X => ?_
  refine for_srcP X S R.h rfl rfl rfl rfl (fun i V m cv M => ∃ kn, M = [(_, PD prog w kn)] ∧ KvR nm isI kn ((ps.take i).foldl (fun n p => putK n p.1 p.2) []) ∧ m "new_callers" = some (.ref _) ∧ m "source" = some (.ref e)) ⟨_, rfl, .nil, rfl, rfl⟩ ?turn ?done
  case turn =>
    rintro i key v V' m' cv' M' hb h tk hi ⟨k, hv, hkey⟩ hV ⟨kn, rfl, hkn, h1, h2⟩ S
    clear X
    obtain ⟨c, n, hn, rfl, t', rfl⟩ := hk1.at hv
    obtain ⟨t, rfl⟩ := str_key hkey
    walk_at "go"
    rename St _ _ _ _ _ _ _ _ => S
    have hP := S.getM (List.mem_append_right _ (.head _))
    have hlen : kn.length ≤ 1000 := by
      rw [hkn.length]
      refine Nat.le_trans (foldPut_length (fun _ (p : K × Int) => p.1) (fun _ p => p.2) (ps.take i) []) ?_
      rw [List.length_take, List.length_nil]; omega
    refine dSet S rfl (fun _ x => x) (fun h' S => ?_) (by rw [sizeLine_eq]; omega)
    walk_at "go"
    rename St _ _ _ _ _ _ _ _ => S
    refine Turned.go S (Sub.refl _) ⟨_, rfl, ?_, h1, h2⟩
    rw [fold_take _ _ _ hn]
    exact hkn.put inj (by obtain ⟨_, _, q⟩ := hP; exact q.nodup) c ⟨t', rfl⟩
  rintro V' m' cv' M' h tk hV ⟨kn, rfl, hkn, h1, h2⟩ S
  clear X
  rw [show kvs.length = ps.length from hk1.length, List.take_length] at hkn
  have hl0 : (ps.foldl (fun n p => putK n p.1 p.2) ([] : List (K × Int))).length ≤ ps.length := by
    have := foldPut_length (fun _ (p : K × Int) => p.1) (fun _ p => p.2) ps []
    simpa using this
  walk_at "go"
  rename St _ _ _ _ _ _ _ _ => S
  rename Heap.IsItemsView _ _ _ => hv
  refine src_items R.h S hv (.inl hO') fun I fp wr Pa Sti Mid h X => ?_
  refine for_srcP X S R.h rfl rfl rfl rfl (fun i V m cv M => ∃ kn, M = [(_, PD prog w kn)] ∧ KvR nm isI kn ((qs.take i).foldl (bumpK (fun a b : Int => a + b)) (ps.foldl (fun n p => putK n p.1 p.2) [])) ∧ m "new_callers" = some (.ref _)) ⟨_, rfl, by rw [List.take_zero]; exact hkn, h1⟩ ?turn2 ?done2
  case done2 =>
    clear X
    rintro V' m' cv' M' h tk hV ⟨kn, rfl, hkn, h1⟩ S
    rw [show kvs'.length = qs.length from hk1'.length, List.take_length] at hkn
    walk_at "go"
    rename St _ _ _ _ _ _ _ _ => S
    obtain ⟨o, e, p⟩ := S.newM (Sub.refl _) (.head _)
    exact ⟨o, e, kn, p, hkn⟩
  clear X
  rintro i key v V' m' cv' M' hb h tk hi ⟨k, hv, hkey⟩ hV ⟨kn, rfl, hkn, h1⟩ S
  obtain ⟨c, n, hn, rfl, t', rfl⟩ := hk1'.at hv
  obtain ⟨t, rfl⟩ := str_key hkey
  have hlen : kn.length ≤ 1000 := by
    rw [hkn.length]
    refine Nat.le_trans (foldBump_length _ (qs.take i) _) ?_
    rw [List.length_take]; omega
  have hs : kn.length ≤ sizeLine := by rw [sizeLine_eq]; omega
  walk_at "go"
  · rename St _ _ _ _ _ _ _ _ => S
    rename _ = true => hsome
    have hP := S.getM (List.mem_append_right _ (.head _))
    rcases hkn.get inj c with ⟨a, b⟩ | ⟨v0, b0, a, b, t0, rfl⟩
    · rw [a] at hsome; cases hsome
    refine dItem hP a ?_
    walk_at "go"
    rename St _ _ _ _ _ _ _ _ => S
    refine dSet S rfl (fun _ x => x) (fun h' S => ?_) hs
    walk_at "go"
    rename St _ _ _ _ _ _ _ _ => S
    refine Turned.go S (Sub.refl _) ⟨_, rfl, ?_, h1⟩
    rw [fold_take _ _ _ hn, bumpK_some b]
    exact hkn.put inj (by obtain ⟨_, _, q⟩ := hP; exact q.nodup) c ⟨_, rfl⟩
  · rename St _ _ _ _ _ _ _ _ => S
    rename _ = false => hsome
    have hP := S.getM (List.mem_append_right _ (.head _))
    rcases hkn.get inj c with ⟨a, b⟩ | ⟨v0, b0, a, b, t0, rfl⟩
    · refine dSet S rfl (fun _ x => x) (fun h' S => ?_) hs
      walk_at "go"
      rename St _ _ _ _ _ _ _ _ => S
      refine Turned.go S (Sub.refl _) ⟨_, rfl, ?_, h1⟩
      rw [fold_take _ _ _ hn, bumpK_none b]
      exact hkn.put inj (by obtain ⟨_, _, q⟩ := hP; exact q.nodup) c ⟨_, rfl⟩
    · rw [a] at hsome; cases hsome
end
-- Has
section
open PySem.Sem (wp)
theorem hk_kind : builtinKind "hasattr" = none := by decide +kernel
theorem hk_plain : plainId "hasattr" = true := by decide +kernel
theorem hk_entry : entryFor table "hasattr" = some Builtin.«hasattr» := entryFor_of_tree (by kernel_rfl)
theorem hk_args (a b : Value) : argsOk "hasattr" ⟨[a, b], []⟩ := by unfold argsOk; kernel_rfl
theorem hk_lk : typeLookup (.type "str") "__getitem__" = pure (some (.builtin "str.__getitem__")) := by rw [typeLookup_type, builtinLookup_eq_fast]; kernel_rfl
theorem hk_lk2 : typeLookup (.type "str") "__getattribute__" = pure (some (.builtin "object.__getattribute__")) := by rw [typeLookup_type, builtinLookup_eq_fast]; kernel_rfl
theorem hk_ty : typeOf (.builtin "str.__getitem__") = pure (.type "wrapper_descriptor") := by unfold typeOf; kernel_rfl
theorem hk_get : typeLookup (.type "wrapper_descriptor") "__get__" = pure (some (.builtin "wrapper_descriptor.__get__")) := by rw [typeLookup_type, builtinLookup_eq_fast]; kernel_rfl
theorem hk_set : typeLookup (.type "wrapper_descriptor") "__set__" = pure none := by rw [typeLookup_type, builtinLookup_eq_fast]; kernel_rfl
theorem hk_del : typeLookup (.type "wrapper_descriptor") "__delete__" = pure none := by rw [typeLookup_type, builtinLookup_eq_fast]; kernel_rfl
theorem hk_slot : Slot "wrapper_descriptor" "__get__" "wrapper_descriptor.__get__" :=
  .of (owner := "wrapper_descriptor") (n := "__get__") hk_get (by decide +kernel) (by decide +kernel) (by decide +kernel)
    (by first | exact .inl (by decide +kernel) | exact .inr (by decide +kernel)) (by rw [isSubtype_type]; kernel_rfl)
theorem hk_entry_get : entryFor table "wrapper_descriptor.__get__" = some Builtin.«wrapper_descriptor.__get__» := entryFor_of_tree (by kernel_rfl)
theorem hk_args_get (a b c : Value) : argsOk "wrapper_descriptor.__get__" ⟨[a, b, c], []⟩ := by unfold argsOk; kernel_rfl
theorem hk_owner : (".".intercalate ("str.__getitem__".cutAt '.').dropLast) = "str" := by
  have e0 : "str.__getitem__".cutAt '.' = ["str", "__getitem__"] := by first | rfl | decide +kernel
  rw [e0]; decide +kernel
theorem hk_sub : isSubtype (.type "str") (.type (".".intercalate ("str.__getitem__".cutAt '.').dropLast)) = pure true := by
  rw [hk_owner, isSubtype_type]; kernel_rfl
section
variable {prog : Program} {w : World} {A : Around} {E : Value → Shared → Prop} {h : Heap} {g : Array GenState} {d : Drawn} {t : Nat} {os : OsState} {x : Str} {u u' : Tok}
theorem hk_bind {R : Result → Shared → Prop} (hq : R (.ok (.ret (.ref h.objs.size))) ⟨h.push { cls := .type "method-wrapper", data := .fields #[.builtin "str.__getitem__", .str x u] }, g, d, t, os⟩) :
    codeAny (model prog w) A (.call (.builtin "wrapper_descriptor.__get__") ⟨[.builtin "str.__getitem__", .str x u, .type "str"], []⟩) R ⟨h, g, d, t, os⟩ := by
  have hT : (⟨h, g, d, t, os⟩ : Shared).TypeIs (.str x u) "str" := rfl
  have hT5 : (⟨h, g, d, t, os⟩ : Shared).TypeIs (.builtin "str.__getitem__") "wrapper_descriptor" := hk_ty
  have f8 := hk_sub
  refine codeAny_call_builtin hk_slot.plain hk_entry_get (hk_slot.check _ _ _ _ _ _ _ _ hT5 (hk_args_get _ _ _) ?_)
  repeat (any_goals (first | assumption | wp_step))
theorem hk_entry9 {Q : Fin → Shared → Prop} (hq : Q (.done (.ret (.ref h.objs.size))) ⟨h.push { cls := .type "method-wrapper", data := .fields #[.builtin "str.__getitem__", .str x u] }, g, d, t, os⟩) :
    wpAny (model prog w) A (Builtin.«object.__getattribute__» ⟨[.str x u, .str "__getitem__" u'], []⟩) Q E ⟨h, g, d, t, os⟩ := by
  have hT : (⟨h, g, d, t, os⟩ : Shared).TypeIs (.str x u) "str" := rfl
  have hT5 : (⟨h, g, d, t, os⟩ : Shared).TypeIs (.builtin "str.__getitem__") "wrapper_descriptor" := hk_ty
  have f4 := hk_lk
  have f5 := hk_ty
  have f6 := hk_get
  have f7 := hk_set
  have f8 := hk_del
  repeat (any_goals (first | assumption | wp_step))
  refine hk_bind ?_
  repeat (any_goals (first | assumption | wp_step))
theorem hk_call {R : Result → Shared → Prop} (hq : R (.ok (.ret (.ref h.objs.size))) ⟨h.push { cls := .type "method-wrapper", data := .fields #[.builtin "str.__getitem__", .str x u] }, g, d, t, os⟩) :
    codeAny (model prog w) A (.call (.builtin "object.__getattribute__") ⟨[.str x u, .str "__getitem__" u'], []⟩) R ⟨h, g, d, t, os⟩ :=
  codeAny_call_builtin F.slot_str_getattribute.plain F.entry_object_getattribute (F.slot_str_getattribute.check _ _ _ _ _ _ _ _ (show (⟨h, g, d, t, os⟩ : Shared).TypeIs (.str x u) "str" from rfl) (F.args_object_getattribute_2 _ _) (hk_entry9 hq))
theorem hk_by {Q : Value → Shared → Prop} (hq : Q (.ref h.objs.size) ⟨h.push { cls := .type "method-wrapper", data := .fields #[.builtin "str.__getitem__", .str x u] }, g, d, t, os⟩) :
    wpAny (model prog w) A (getAttrBy (.str x u) (.str "__getitem__" u') false) Q E ⟨h, g, d, t, os⟩ := by
  have hT : (⟨h, g, d, t, os⟩ : Shared).TypeIs (.str x u) "str" := rfl
  have f2 := F.slot_str_getattribute.lookup
  have f3 := F.slot_str_getattribute.bind (.str x u)
  repeat (any_goals (first | assumption | wp_step))
  refine hk_call ?_
  repeat (any_goals (first | assumption | wp_step))
theorem hk_has {Q : Value → Shared → Prop} (hq : Q (.bool true) ⟨h.push { cls := .type "method-wrapper", data := .fields #[.builtin "str.__getitem__", .str x u] }, g, d, t, os⟩) :
    wpAny (model prog w) A (call (.builtin "hasattr") [.str x u, .str "__getitem__" u']) Q E ⟨h, g, d, t, os⟩ := by
  refine Calls.call_function_entry hk_kind hk_plain hk_entry (hk_args _ _) ?_
  have hT : (⟨h, g, d, t, os⟩ : Shared).TypeIs (.str x u) "str" := rfl
  have f4 := hk_lk
  have f5 := hk_lk2
  have f6 : (withoutEnding? "str.__getitem__" "#data") = none := by decide +kernel
  unfold Builtin.«hasattr»
  refine wpAny_bind (wpAny_of_eq (a := [.str x u, .str "__getitem__" u']) (by first | rfl | kernel_rfl) ?_)
  dsimp only
  refine wpAny_bind (wpAny_of_eq (a := ()) (by first | rfl | kernel_rfl) ?_)
  iterate 10 wp_step
  rw [f6]
  refine wpAny_ite (KPc.ite_no Bool.false_ne_true ?_)
  refine wpAny_bind (wpAny_of_eq (a := 0) (by first | rfl | kernel_rfl) ?_)
  refine wpAny_ite (KPc.ite_no Bool.false_ne_true ?_)
  unfold getAttrBy?
  refine wpAny_bind (wpAny_bind (wpAny_attempt (hk_by ?_)))
  dsimp only
  refine wpAny_pure ?_
  refine wpAny_ite (KPc.ite_no Bool.false_ne_true ?_)
  exact wpAny_pure ⟨_, rfl, hq⟩
end
end
-- Str9
section
open PySem PySem.W PyProof.Rows PySem.Calls PySem.Builtin PySem.Builtin.Str
noncomputable def atIdx (n : Nat) (i : Int) : Nat := (max 0 (if i < 0 then i + n else i)).toNat
noncomputable def findP (x y : Str) (i j : Int) : Int := match occurrences x y (atIdx x.length i) (min (atIdx x.length j) x.length) 1 with | k :: _ => (k : Int) | [] => -1
noncomputable def rfindP (x y : Str) (i j : Int) : Int := match lastOccurrence x y (atIdx x.length i) (min (atIdx x.length j) x.length) with | some k => (k : Int) | none => -1
theorem gives_find4 (x y : Str) (i j : Int) (t u v v' : Tok) : Gives («str.find» ⟨[.str x t, .str y u, .int i v, .int j v'], []⟩) (.int (findP x y i j)) := by
  show Gives (match occurrences x y (atIdx x.length i) (min (atIdx x.length j) x.length) 1 with | k :: _ => retInt k | [] => (do rule "str.find.not-found"; retInt (-1))) _
  unfold findP
  cases occurrences x y (atIdx x.length i) (min (atIdx x.length j) x.length) 1 with
  | nil => exact .rule (.of_eq rfl)
  | cons k _ => exact .of_eq rfl
theorem gives_rfind4 (x y : Str) (i j : Int) (t u v v' : Tok) : Gives («str.rfind» ⟨[.str x t, .str y u, .int i v, .int j v'], []⟩) (.int (rfindP x y i j)) := by
  show Gives (match lastOccurrence x y (atIdx x.length i) (min (atIdx x.length j) x.length) with | some k => retInt k | none => (do rule "str.rfind.not-found"; retInt (-1))) _
  unfold rfindP
  cases lastOccurrence x y (atIdx x.length i) (min (atIdx x.length j) x.length) with
  | none => exact .rule (.of_eq rfl)
  | some k => exact .of_eq rfl
theorem keptSt {O V : View} {L : Addr} {m : Str → Option Value} {cl : List (Str × Addr)} {cv : Str → Option Value} {M : Led} : KeptH (St O V L m cl cv M) := fun _ _ S => S.grown fun _ _ e => Heap.get?_push_of_some _ e
section
variable {prog : Program} {w : World} {A : Around} {E : Value → Shared → Prop} {s : Shared} {O V : View} {L : Addr} {m : Str → Option Value} {cl : List (Str × Addr)} {cv : Str → Option Value} {M : Led} {env : Env}
  {x y : Str} {t u : Tok} {Q : Value → Shared → Prop}
theorem has_st (S : St O V L m cl cv M s.heap) (h : ∀ h', St O V L m cl cv M h' → Q (.bool true) { s with heap := h' }) : wpAny (model prog w) A (call (.builtin "hasattr") [.str x t, .str "__getitem__" u]) Q E s := by
  obtain ⟨hp, g, d, tk, os⟩ := s
  exact hk_has (h _ (keptSt _ _ S))
theorem find4 {i j : Int} {v v' : Tok} (h : ∀ t' k, Q (.int (findP x y i j) t') { s with toks := k }) : wpAny (model prog w) A (call (.builtin "str.find") [.str x t, .str y u, .int i v, .int j v']) Q E s :=
  call_gives F.slot_str_find (typeIs_str _ _ _) F.entry_str_find (F.args_str_find_4 _ _ _ _) (gives_find4 x y i j t u v v') (h _ _)
theorem rfind4 {i j : Int} {v v' : Tok} (h : ∀ t' k, Q (.int (rfindP x y i j) t') { s with toks := k }) : wpAny (model prog w) A (call (.builtin "str.rfind") [.str x t, .str y u, .int i v, .int j v']) Q E s :=
  call_gives F.slot_str_rfind (typeIs_str _ _ _) F.entry_str_rfind (F.args_str_rfind_4 _ _ _ _) (gives_rfind4 x y i j t u v v') (h _ _)
theorem find2 (h : ∀ t' k, Q (.int (Txt.find x y) t') { s with toks := k }) : wpAny (model prog w) A (call (.builtin "str.find") [.str x t, .str y u]) Q E s :=
  call_gives F.slot_str_find (typeIs_str _ _ _) F.entry_str_find (F.args_str_find_2 _ _) (gives_str_find x y t u) (h _ _)
theorem len9 (hfit : x.length ≤ 100000) (h : ∀ t' k, Q (.int x.length t') { s with toks := k }) : wpAny (model prog w) A (call (.builtin "len") [.str x t]) Q E s :=
  len_str (by omega) (h _ _)
section
variable {value slice : Expr}
theorem sl_ns {j : Int} {uj : Tok} (S : St O V L m cl cv M s.heap) (hsz : x.length ≤ 100000) (h : ∀ h' t' k, St O V L m cl cv M h' → Q (.str (Txt.slice x none (some j)) t') { s with heap := h', toks := k })
    (hs : subscripted slice false (.str x t) (.ref s.heap.objs.size) = operate [.ref s.heap.objs.size, .str x t] (getItem (.str x t) (.ref s.heap.objs.size)) := by with_unfolding_all rfl)
    (ht : ∀ r, letTemporaryGo value (.str x t) r = pure () := by intro _; with_unfolding_all rfl) :
    wpAny (model prog w) A (subscriptTail value slice (.str x t) (.ref s.heap.objs.size)) Q E { s with heap := s.heap.push { cls := .type "slice", data := .fields #[.none, .int j uj, .none] } } :=
  tail_of_ItemOn (SBH.sliceItem_ns keptSt S h (by rw [sizeLine_eq]; omega)) hs ht
theorem sl_sn {i : Int} {ui : Tok} (S : St O V L m cl cv M s.heap) (hsz : x.length ≤ 100000) (h : ∀ h' t' k, St O V L m cl cv M h' → Q (.str (Txt.slice x (some i) none) t') { s with heap := h', toks := k })
    (hs : subscripted slice false (.str x t) (.ref s.heap.objs.size) = operate [.ref s.heap.objs.size, .str x t] (getItem (.str x t) (.ref s.heap.objs.size)) := by with_unfolding_all rfl)
    (ht : ∀ r, letTemporaryGo value (.str x t) r = pure () := by intro _; with_unfolding_all rfl) :
    wpAny (model prog w) A (subscriptTail value slice (.str x t) (.ref s.heap.objs.size)) Q E { s with heap := s.heap.push { cls := .type "slice", data := .fields #[.int i ui, .none, .none] } } :=
  tail_of_ItemOn (SBH.sliceItem_sn keptSt S h (by rw [sizeLine_eq]; omega)) hs ht
theorem sl_ss {i j : Int} {ui uj : Tok} (S : St O V L m cl cv M s.heap) (hsz : x.length ≤ 100000) (h : ∀ h' t' k, St O V L m cl cv M h' → Q (.str (Txt.slice x (some i) (some j)) t') { s with heap := h', toks := k })
    (hs : subscripted slice false (.str x t) (.ref s.heap.objs.size) = operate [.ref s.heap.objs.size, .str x t] (getItem (.str x t) (.ref s.heap.objs.size)) := by with_unfolding_all rfl)
    (ht : ∀ r, letTemporaryGo value (.str x t) r = pure () := by intro _; with_unfolding_all rfl) :
    wpAny (model prog w) A (subscriptTail value slice (.str x t) (.ref s.heap.objs.size)) Q E { s with heap := s.heap.push { cls := .type "slice", data := .fields #[.int i ui, .int j uj, .none] } } :=
  tail_of_ItemOn (SBH.sliceItem_ss keptSt S h (by rw [sizeLine_eq]; omega)) hs ht
theorem sl_list {l : Addr} {vs : List Value} {vl vu : Value} {lo hi : Option Int} (S : St O V L m cl cv M s.heap) (hl : At s.heap.get? l (PI vs)) (pl : IsPart vl lo) (pu : IsPart vu hi) (hsz : vs.length ≤ 100000)
    (h : ∀ d h', St O V L m cl cv ((d, PL (slicePick vs.toArray lo hi none).toList) :: M) h' → Q (.ref d) { s with heap := h' })
    (hs : subscripted slice false (.ref l) (.ref s.heap.objs.size) = operate [.ref s.heap.objs.size, .ref l] (getItem (.ref l) (.ref s.heap.objs.size)) := by with_unfolding_all rfl)
    (ht : ∀ r, letTemporaryGo value (.ref l) r = pure () := by intro _; with_unfolding_all rfl) :
    wpAny (model prog w) A (subscriptTail value slice (.ref l) (.ref s.heap.objs.size)) Q E { s with heap := s.heap.push { cls := .type "slice", data := .fields #[vl, vu, .none] } } := by
  refine subscriptTail_ops (Heap.IsList.typeIs (s := { s with heap := s.heap.push { cls := .type "slice", data := .fields #[vl, vu, .none] } }) (hl.list.push _)) list_getitem_lookup
    (wpAny_getItem_list_slice (hl.list.push _) (Heap.IsSliceOf.new ..) pl pu .none (by simp) ?_ (by rw [List.size_toArray, sizeLine_eq]; omega)) hs ht
  refine h _ _ ?_
  exact St.alloc (keptSt _ _ S) _ ⟨0, by simp⟩
theorem sl_list3 {l : Addr} {vs : List Value} {vl vu vk : Value} {lo hi st : Option Int} {ops : List Value} (S : St O V L m cl cv M s.heap) (hl : At s.heap.get? l (PI vs)) (pl : IsPart vl lo) (pu : IsPart vu hi) (pk : IsPart vk st) (h0 : st ≠ some 0) (hsz : vs.length ≤ 100000)
    (h : ∀ d h', St O V L m cl cv ((d, PL (slicePick vs.toArray lo hi st).toList) :: M) h' → Q (.ref d) { s with heap := h' })
    (hs : subscripted slice false (.ref l) (.ref s.heap.objs.size) = operate ops (getItem (.ref l) (.ref s.heap.objs.size)) := by with_unfolding_all rfl)
    (ht : ∀ r, letTemporaryGo value (.ref l) r = pure () := by intro _; with_unfolding_all rfl) :
    wpAny (model prog w) A (subscriptTail value slice (.ref l) (.ref s.heap.objs.size)) Q E { s with heap := s.heap.push { cls := .type "slice", data := .fields #[vl, vu, vk] } } := by
  refine subscriptTail_ops (Heap.IsList.typeIs (s := { s with heap := s.heap.push { cls := .type "slice", data := .fields #[vl, vu, vk] } }) (hl.list.push _)) list_getitem_lookup
    (wpAny_getItem_list_slice (hl.list.push _) (Heap.IsSliceOf.new ..) pl pu pk h0 ?_ (by rw [List.size_toArray, sizeLine_eq]; omega)) hs ht
  refine h _ _ ?_
  exact St.alloc (keptSt _ _ S) _ ⟨0, by simp⟩
end
theorem add9 (hsz : x.length + y.length ≤ 100000) (h : ∀ t' k, Q (.str (x ++ y) t') { s with toks := k }) : wpAny (model prog w) A (binaryOp .Add (.str x t) (.str y u)) Q E s := PyProof.Rows.add_str h (by rw [sizeLine_eq]; omega)
theorem tup9 {vs : List Value} (S : St O V L m cl cv M s.heap) (hsz : vs.length ≤ 100000) (h : ∀ d h', St O V L m cl cv ((d, PT vs) :: M) h' → Q (.ref d) { s with heap := h' }) : wpAny (model prog w) A (newTuple vs) Q E s :=
  wpAny_newTuple (h _ _ (S.alloc _ ⟨rfl, 0, rfl⟩)) (by rw [sizeLine_eq]; omega)
theorem list9 {vs : List Value} (S : St O V L m cl cv M s.heap) (hsz : vs.length ≤ 100000) (h : ∀ d h', St O V L m cl cv ((d, PL vs) :: M) h' → Q (.ref d) { s with heap := h' }) : wpAny (model prog w) A (newList vs) Q E s :=
  wpAny_newList (h _ _ (S.alloc _ ⟨0, rfl⟩)) (by rw [sizeLine_eq]; omega)
theorem St.ext {h h' : Heap} (S : St O V L m cl cv M h) (he : Heap.ExtBut h.objs.size h h') : St O V L m cl cv M h' := S.grown fun b o e => he b o (Nat.ne_of_lt (Heap.lt_size e)) e
theorem unpack9 {a : Addr} {vs : List Value} {n : Nat} {Q : List Value → Shared → Prop} (S : St O V L m cl cv M s.heap) (hh : A.handled = none) (ha : At s.heap.get? a (PT vs)) (hn : n = vs.length) (h : ∀ h', St O V L m cl cv M h' → Q vs { s with heap := h' }) : wpAny (model prog w) A (unpackItems (.ref a) n none) Q E s := by
  subst hn
  exact unpackItems_tuple (items := vs.toArray) hh ha.tuple fun h' he => h h' (S.ext he)
theorem asg9 {elts : List Expr} {k} {pos : Pos} {a : Addr} {vs : List Value} {Q : Unit → Shared → Prop} (S : St O V L m cl cv M s.heap) (hh : A.handled = none) (ha : At s.heap.get? a (PT vs))
    (hn : (assignEach elts env).length = vs.length) (hstar : (assignEach elts env).findIdx? (·.1) = none)
    (h : ∀ h', St O V L m cl cv M h' → wpAny (model prog w) A (assignInOrder ((assignEach elts env).map (·.2)) vs) Q E { s with heap := h' }) :
    wpAny (model prog w) A (assign (.Tuple elts k pos) env (.ref a)) Q E s :=
  assign_Tuple_tuple (items := vs.toArray) hh ha.tuple (by simpa using hn) hstar fun h' he => h h' (S.ext he)
theorem sl_tup2 {value slice : Expr} {a : Addr} {v0 v1 v2 : Value} {uj : Tok} (S : St O V L m cl cv M s.heap) (ha : At s.heap.get? a (PT [v0, v1, v2]))
    (h : ∀ d h', St O V L m cl cv ((d, PT [v0, v1]) :: M) h' → Q (.ref d) { s with heap := h' })
    (hs : subscripted slice false (.ref a) (.ref s.heap.objs.size) = operate [.ref s.heap.objs.size, .ref a] (getItem (.ref a) (.ref s.heap.objs.size)) := by with_unfolding_all rfl)
    (hg : ∀ r, letTemporaryGo value (.ref a) r = pure () := by intro _; with_unfolding_all rfl) :
    wpAny (model prog w) A (subscriptTail value slice (.ref a) (.ref s.heap.objs.size)) Q E { s with heap := s.heap.push { cls := .type "slice", data := .fields #[.none, .int 2 uj, .none] } } := by
  have ht' : IsTup (s.heap.push { cls := .type "slice", data := .fields #[.none, .int 2 uj, .none] }) a #[v0, v1, v2] := by
    obtain ⟨o, e, r⟩ := ha; exact ⟨o, Heap.get?_push_of_some _ e, r⟩
  have hsl := Heap.IsSliceOf.new s.heap .none (.int 2 uj) .none
  have S' := keptSt s.heap { cls := .type "slice", data := .fields #[.none, .int 2 uj, .none] } S
  revert ht' S' hsl
  generalize hH : (s.heap.push { cls := .type "slice", data := .fields #[.none, .int 2 uj, .none] }) = H
  intro ht' hsl S'
  refine subscriptTail_ops (s := { s with heap := H }) ht'.typeIs slot_tuple_getitem.lookup ?_ hs hg
  obtain ⟨os, hos, hcs, hds⟩ := id hsl
  have hTs : ({ s with heap := H } : Shared).TypeIs (.ref s.heap.objs.size) "slice" := ⟨os, hos, hcs⟩
  have hdrop : sizeOk (.seq #[v0, v1]) := by show 2 ≤ sizeLine; rw [sizeLine_eq]; omega
  have fin : ∀ r, r = H.objs.size → Q (.ref r) { s with heap := H.push { cls := .type "tuple", data := .seq #[v0, v1] } } := fun r e => e ▸ h _ _ (S'.alloc _ ⟨rfl, 0, rfl⟩)
  unfold getItem
  try with_reducible refine wpAny_holding ?_
  first | refine wpAny_bind (wpAny_pure ?_) | skip
  refine wpAny_bind (wpAny_sequenceKey ht'.typeIs (by decide) ?_)
  refine wpAny_bind (wpAny_callSpecial?_slot (name := Str.ofString "__getitem__") ht'.typeIs slot_tuple_getitem
    (wpAny_call_entry slot_tuple_getitem ht'.typeIs entry_tuple_getitem ?_ (args_tuple_getitem _ _)))
  show wpAny _ _ (Builtin.Tuple.tupleItemsOf (.ref a) >>= _) _ _ _
  refine wpAny_bind (tupleItemsOf_ ht' ?_)
  refine wpAny_bind (wpAny_typeOf hTs ?_)
  rw [if_pos (by decide)]
  have app : ∀ {Q : Int × Int × Nat → Shared → Prop}, Q ((0 : Int), 1, 2) { s with heap := H } → wpAny (model prog w) A.in1 (Builtin.Slice.sliceApplied (.ref s.heap.objs.size) (pure ((#[v0, v1, v2] : Array Value).size : Int))) Q E { s with heap := H } := by
    intro Q hq
    unfold Builtin.Slice.sliceApplied Builtin.Slice.sliceFields
    refine wpAny_bind (wpAny_bind (wpAny_field hos hds (x := .none) rfl (wpAny_bind (wpAny_field hos hds (x := .int 2 uj) rfl (wpAny_bind (wpAny_field hos hds (x := .none) rfl (wpAny_pure ?_)))))))
    refine wpAny_bind (slicePart_none ?_)
    show wpAny _ _ (if ((1 : Int) == 0) = true then _ else _) _ _ _
    rw [if_neg (by decide)]
    refine wpAny_bind (slicePart_none (wpAny_bind (slicePart_int (wpAny_bind (wpAny_pure ?_)))))
    exact wpAny_pure hq
  refine wpAny_bind (app ?_)
  show wpAny _ _ (if ((0 : Int) == 0 && (1 : Int) == 1 && (2 == (3 : Nat))) = true then _ else _) _ _ _
  rw [if_neg (by decide)]
  first
    | exact wpAny_bind (m := Builtin.Tuple.tupleExact _) (wpAny_newObj_type (wpAny_pure ⟨_, rfl, wpAny_pure (fin _ rfl)⟩) hdrop)
    | exact wpAny_bind (m := Builtin.Tuple.tupleExact _) (wpAny_newObj_type (wpAny_bind (wpAny_pure (wpAny_pure ⟨_, rfl, wpAny_pure (fin _ rfl)⟩))) hdrop)
    | exact wpAny_bind (wpAny_bind (m := Builtin.Tuple.tupleExact _) (wpAny_newObj_type (wpAny_pure (wpAny_pure ⟨_, rfl, wpAny_pure (fin _ rfl)⟩)) hdrop))
    | exact wpAny_bind (wpAny_bind (m := Builtin.Tuple.tupleExact _) (wpAny_newObj_type (wpAny_pure ⟨_, rfl, wpAny_pure (fin _ rfl)⟩) hdrop))
theorem eqTup {a b : Addr} {xs ys : List Value} {e : Nat → Bool} (ha : At s.heap.get? a (PT xs)) (hb : At s.heap.get? b (PT ys)) (hu : A.units < cLine) (he : ∀ j (h1 : j < xs.toArray.size) (h2 : j < ys.toArray.size), SeqAt.EqAt A.in1 s xs.toArray[j] ys.toArray[j] (e j))
    {r : Bool} (hr : ((List.range (min xs.length ys.length)).all e && xs.length == ys.length) = r) (h : Q (.bool r) s) : wpAny (model prog w) A (compareOp .Eq (.ref a) (.ref b)) Q E s := by
  subst hr
  exact SeqAt.eq_tupleAt ha.tuple hb.tuple hu he (by simpa using h)
end
end
local macro_rules | `(tactic| walk_at "call builtin:hasattr") => `(tactic| ((rename St _ _ _ _ _ _ _ _ => S9); refine has_st S9 ?_; clear S9; intro h' S))
section
open PySem PySem.W PyProof.Rows PySem.Calls PySem.Builtin PySem.Builtin.Str
end
local macro_rules | `(tactic| walk_at "call builtin:len") => `(tactic| ((with_reducible show wpAny _ _ (call (Value.builtin "len") [Value.str _ _]) _ _ _); (refine' len9 ?a ?_; (case a => first | assumption | omega)); intro _ _))
section
open PySem PySem.W PyProof.Rows PySem.Calls PySem.Builtin PySem.Builtin.Str
end
local macro_rules | `(tactic| walk_at "call builtin:str.find") => `(tactic| first | ((with_reducible show wpAny _ _ (call (Value.builtin "str.find") [Value.str _ _, Value.str _ _]) _ _ _); refine find2 ?_; intro _ _) | ((with_reducible show wpAny _ _ (call (Value.builtin "str.find") [Value.str _ _, Value.str _ _, Value.int _ _, Value.int _ _]) _ _ _); refine find4 ?_; intro _ _))
section
open PySem PySem.W PyProof.Rows PySem.Calls PySem.Builtin PySem.Builtin.Str
end
local macro_rules | `(tactic| walk_at "call builtin:str.rfind") => `(tactic| ((with_reducible show wpAny _ _ (call (Value.builtin "str.rfind") [Value.str _ _, Value.str _ _, Value.int _ _, Value.int _ _]) _ _ _); refine rfind4 ?_; intro _ _))
section
open PySem PySem.W PyProof.Rows PySem.Calls PySem.Builtin PySem.Builtin.Str
end
local macro_rules | `(tactic| walk_at "my_sl") => `(tactic| (
  (rename St _ _ _ _ _ _ _ _ => S9);
  with_unfolding_all (first
  | (refine' sl_ns S9 ?z ?_; (case z => first | assumption | omega))
  | (refine' sl_sn S9 ?z ?_; (case z => first | assumption | omega))
  | (refine' sl_ss S9 ?z ?_; (case z => first | assumption | omega)));
  clear S9; intro h' _ _ S))
section
open PySem PySem.W PyProof.Rows PySem.Calls PySem.Builtin PySem.Builtin.Str
end
local macro_rules | `(tactic| walk_at "subscriptTail Name Slice str ref") => `(tactic| walk_at "my_sl")
section
open PySem PySem.W PyProof.Rows PySem.Calls PySem.Builtin PySem.Builtin.Str
end
local macro_rules | `(tactic| walk_at "binaryOp Add str str") => `(tactic| ((refine' add9 ?z ?_; (case z => first | assumption | omega)); intro _ _))
section
open PySem PySem.W PyProof.Rows PySem.Calls PySem.Builtin PySem.Builtin.Str
end
local macro_rules | `(tactic| walk_at "newTuple") => `(tactic| ((rename St _ _ _ _ _ _ _ _ => S9); (refine' tup9 S9 ?z ?_; (case z => exact Nat.le_of_ble_eq_true rfl)); clear S9; intro d9 h9 S))
section
open PySem PySem.W PyProof.Rows PySem.Calls PySem.Builtin PySem.Builtin.Str
end
local macro_rules | `(tactic| walk_at "newList") => `(tactic| ((rename St _ _ _ _ _ _ _ _ => S9); (refine' list9 S9 ?z ?_; (case z => exact Nat.le_of_ble_eq_true rfl)); clear S9; intro d9 h9 S))
section
open PySem PySem.W PyProof.Rows PySem.Calls PySem.Builtin PySem.Builtin.Str
end
local macro_rules | `(tactic| walk_at "unpackItems ref") => `(tactic| ((rename St _ _ _ _ _ _ _ _ => S9); (have R9 := ‹Room _ _›); (refine' unpack9 S9 ?r ?z ?n ?_; (case r => exact (Room.h R9 :)); (case z => walk_at "at9"); (case n => rfl)); clear S9; intro h9 S))
section
open PySem PySem.W PyProof.Rows PySem.Calls PySem.Builtin PySem.Builtin.Str
end
local macro_rules | `(tactic| walk_at "isL9") => `(tactic| first | walk_at "at9" | exact At.mono (by walk_at "at9") (fun _ x => PL.pi x))
section
open PySem PySem.W PyProof.Rows PySem.Calls PySem.Builtin PySem.Builtin.Str
end
local macro_rules | `(tactic| walk_at "subscriptTail Name Slice ref ref") => `(tactic| (
  (rename St _ _ _ _ _ _ _ _ => S9);
  with_unfolding_all (first
  | (refine' sl_tup2 S9 ?a ?_; (case a => walk_at "at9"))
  | (refine' sl_list S9 ?a ?p ?q ?z ?_; (case a => walk_at "isL9"); (case p => first | exact .none | exact .int _ _); (case q => first | exact .none | exact .int _ _); (case z => first | assumption | omega))
  | (refine' sl_list3 S9 ?a ?p ?q ?r ?u ?z ?_; (case a => walk_at "isL9"); (case p => first | exact .none | exact .int _ _); (case q => first | exact .none | exact .int _ _); (case r => first | exact .none | exact .int _ _); (case u => decide); (case z => first | assumption | omega)));
  clear S9; intro d9 h9 S))
section
open PySem PySem.W PyProof.Rows PySem.Calls PySem.Builtin PySem.Builtin.Str
end
-- Pct
section
open PySem PySem.W PyProof.Rows PySem.Calls PySem.Builtin PySem.Builtin.Str
theorem after_raw {M : Model} {A : Around} {E : Value → Shared → Prop} {s : Shared} {l : List Nat} {p : List Value} {r : List Nat}
  {f : Nat → List Value × Writer × List Nat → Sem (ForInStep (List Value × Writer × List Nat))} {Q : List Value × Writer × List Nat → Shared → Prop}
  {w : Writer} {T : PySem.Str} {N K : Nat} {o : Option Value} {d : List Nat} (g : KPc.Good w T N) (hl : d.length ≤ K) (ho : o = none) (h : ∀ w', KPc.Good w' (T ++ ⟨d.toArray⟩) (N + K) → wpAny M A (forIn l (p, w', r) f) Q E s) :
    wpAny M A (forIn l (p, w.add ⟨d.toArray⟩ o, r) f) Q E s :=
  h _ (KPc.good_mono (KPc.good_add g (KPc.obj_none ho)) (Nat.add_le_add_left (by simpa [PySem.Str.length] using hl) _))
theorem pint_len (c : Percent) (b : Bool) (h1 : c.alt = false) (h3 : c.prec = none) (d : List Nat) : (percentInt c b d).length ≤ d.length + 1 := by
  unfold percentInt
  cases b <;> simp [h1, h3] <;> split <;> simp
noncomputable def digs (n : Int) : List Nat := (PySem.Str.ofString (toString ((n.natAbs : Nat) : Int))).cps.toList
theorem digs_len {n : Int} (h : n.natAbs < 10 ^ 8) : (digs n).length ≤ 10 := by
  have := toString_length_le (v := ((n.natAbs : Nat) : Int)) (k := 10) (by omega) (by decide) (by omega)
  simpa [digs, PySem.Str.length] using this
noncomputable def pctI (n : Int) : Str := ⟨(percentInt { type := 100 } (decide (n < 0)) (digs n)).toArray⟩
theorem pctI_len {n : Int} (h : n.natAbs < 10 ^ 8) : (pctI n).length ≤ 11 := by
  have h1 := pint_len { type := 100 } (decide (n < 0)) rfl rfl (digs n)
  have h2 := digs_len h
  have : (pctI n).length = (percentInt { type := 100 } (decide (n < 0)) (digs n)).length := by simp [pctI, PySem.Str.length]
  omega
theorem strAssoc4 (a b c d e f : Str) : a ++ b ++ c ++ d ++ e ++ f = a ++ b ++ (c ++ d ++ e ++ f) := by
  have : (a ++ b ++ c ++ d ++ e ++ f).cps = (a ++ b ++ (c ++ d ++ e ++ f)).cps := by
    simp only [PySem.Str.cps_append, Array.append_assoc]
  exact congrArg PySem.Str.mk this
theorem fmt_meets {b : Addr} {x y : Str} {t t1 t2 u : Tok} {n : Int} (hn : n.natAbs < 10 ^ 8) (hd : n.natAbs.log2 < 1920) (hd2 : ((n.natAbs : Nat) : Int).natAbs.log2 < 1920) (hx : x.length ≤ 100) (hy : y.length ≤ 100) :
    Meets («str.__mod__» ⟨[.str ⟨#[37, 115, 58, 37, 100, 40, 37, 115, 41]⟩ t, .ref b], []⟩) (fun _ R s => IsTup s.heap b #[.str x t1, .int n u, .str y t2] ∧ ∀ t' k, R (.ok (.ret (.str (x ++ Str.ofString ":" ++ (pctI n ++ Str.ofString "(" ++ y ++ Str.ofString ")")) t'))) { s with toks := k }) := by
  apply KPt.meets_tup
  intro _ _ _ _ _ _ kptH hq
  obtain ⟨kptO, kptG, kptC, kptN, kptD⟩ := kptH
  rw [KPt.entry_is_r]
  unfold Builtin.Str.percentFormat
  refine wpAny_bind (wpAny_isInstance (T := "tuple") ⟨kptO, kptG, kptC⟩ KPt.sub_tt ?_)
  refine wpAny_bind (KPt.asStr_ref kptG kptD ?_)
  refine wpAny_bind (KPt.fills_ref ⟨kptO, kptG, kptC⟩ ?_)
  intro _
  kpc_if
  refine wpAny_bind (wpAny_seqItems kptG kptD ?_)
  refine wpAny_bind (wpAny_pure ?_)
  refine wpAny_bind ?_
  rw [KPc.range_list]
  refine KPc.start ?_
  intro _ _
  refine KPc.turn ?_
  kpc_check; (repeat kpc_if)
  refine wpAny_bind ?_; refine wpAny_holding ?_; (repeat kpc_if); kpt_conv; refine wpAny_pure ?_; refine wpAny_pure ?_
  refine KPc.after_str0 (K := 100) (by kpc_g) hx (by kpc_obj) ?_; intro _ _
  refine KPc.turn ?_
  kpc_check; (repeat kpc_if)
  refine wpAny_pure ?_; kpt_piece
  refine KPc.turn ?_
  kpc_check; (repeat kpc_if)
  refine wpAny_bind ?_; refine wpAny_holding ?_; (repeat kpc_if)
  refine wpAny_bind (wpAny_of_eq (a := n) rfl ?_); (repeat kpc_if)
  refine wpAny_bind (wpAny_mkInt ?_)
  refine wpAny_bind (call_gives F.slot_int_repr (typeIs_int _ _ _) F.entry_int_repr (F.args_int_repr_1 _) (gives_int_repr _ _ hd2) ⟨int_text_fits hd2, ?_⟩)
  refine wpAny_bind (wpAny_of_eq (a := some (PySem.Str.ofString (toString ((n.natAbs : Nat) : Int)))) rfl ?_)
  refine wpAny_pure ?_
  refine wpAny_pure ?_
  refine after_raw (K := 20) (by kpc_g) (by refine Nat.le_trans (pint_len _ _ rfl rfl _) ?_; have := digs_len hn; show (digs n).length + 1 ≤ 20; omega) (by kpc_none) ?_
  intro _ _
  refine KPc.turn ?_
  kpc_check; (repeat kpc_if)
  refine wpAny_pure ?_; kpt_piece
  refine KPc.turn ?_
  kpc_check; (repeat kpc_if)
  refine wpAny_bind ?_; refine wpAny_holding ?_; (repeat kpc_if); kpt_conv; refine wpAny_pure ?_; refine wpAny_pure ?_
  refine KPc.after_str (K := 100) (by kpc_g) hy (by kpc_obj) ?_; intro _ _
  refine KPc.turn ?_
  kpc_check; (repeat kpc_if)
  refine wpAny_pure ?_; kpt_piece
  refine KPc.turn ?_
  kpc_check; (repeat kpc_if)
  refine wpAny_pure ?_
  kpc_if
  refine KPc.finish_ok (by kpc_g) (by decide +kernel) ?_ hq
  exact strAssoc4 x _ _ _ _ _
theorem fmt9 {prog : Program} {w : World} {A : Around} {E : Value → Shared → Prop} {s : Shared} {X x y : Str} {t u t1 t2 : Tok} {n : Int} {b : Addr} {Q : Value → Shared → Prop} (hb : At s.heap.get? b (PT [.str x t1, .int n u, .str y t2])) (hX : X = ⟨#[37, 115, 58, 37, 100, 40, 37, 115, 41]⟩)
    (hn : n.natAbs < 10 ^ 8) (hx : x.length ≤ 100) (hy : y.length ≤ 100)
    (h : ∀ t' k, Q (.str (x ++ Str.ofString ":" ++ (pctI n ++ Str.ofString "(" ++ y ++ Str.ofString ")")) t') { s with toks := k }) : wpAny (model prog w) A (binaryOp .Mod (.str X t) (.ref b)) Q E s := by
  subst hX
  have ht : IsTup s.heap b #[.str x t1, .int n u, .str y t2] := hb
  have hT : s.TypeIs (.ref b) "tuple" := ht.typeIs
  have hd : n.natAbs.log2 < 1920 := shown (N := 2 ^ 1920) (by omega) (by omega) (Int.le_refl _)
  exact KPt.bin_left (T := "str") (U := "tuple") (op := .Mod) (by decide) (typeIs_str s _ t) hT F.fills_str_mod KPt.fills_tuple F.slot_str_mod
    (call_meets F.slot_str_mod (typeIs_str s _ t) F.entry_str_mod (F.args_str_mod_2 _ _) (fmt_meets hn hd hd hx hy) ⟨ht, fun t' k => ⟨(fun e => nomatch e), h t' k⟩⟩)
end
-- Fn3
section
variable {prog : Program} {w : World} {mean : ExcName → Option Value} {mg mb : Str → Option Value} {base : Heap} {A : Around} {s : Shared}
set_option maxHeartbeats 4000000
noncomputable def isStr (x : Str) (v : Value) : Prop := ∃ t, v = .str x t
theorem isStr.of {x y : Str} {t : Tok} (h : y = x) : isStr x (.str y t) := ⟨t, h ▸ rfl⟩
noncomputable def isMsg (x : Str) (v : Value) : Prop := ∃ z, z.length ≤ 200 ∧ isStr (x ++ Str.ofString ":" ++ z) v
noncomputable def stripP (x : Str) : Str :=
  let i1 := Txt.find x (Str.ofString "\n")
  let e1 := if i1 ≥ 0 then i1 else x.length
  let i2 := findP x (Str.ofString ":") 0 e1
  let e2 := if i2 ≥ 0 then i2 else e1
  let i3 := rfindP x (Str.ofString ".") 0 e2
  Txt.slice x (some (if i3 ≥ 0 then i3 + 1 else 0)) (some e2)
theorem concat_c {x y : Str} {t u : Tok} (C : Cx w mean mg mb base) (hb0 : Sub base.get? s.heap.get?) (R : Room A 1) (hxy : x.length + y.length ≤ 100000) :
    Does prog w A (call (.ref 78) [.str x t, .str y u]) (fun _ v => ∃ t, v = .str (x ++ y) t) s := by
  refine' enter (binds := [("a", .str x t), ("b", .str y u)]) (m := fun z => if z = "b" then some (.str y u) else if z = "a" then some (.str x t) else none) (cv := fun _ => none) C hb0 R ?ho ?hcd ?hbind ?hkind ?hnd ?hm ?hc ?h ?c1 ?c2 ?c3
  walk_at "my_enter"
  intro L h₁ tk S
  walk_at "go"
theorem strip_c {x : Str} {t : Tok} (C : Cx w mean mg mb base) (hb0 : Sub base.get? s.heap.get?) (R : Room A 1) (hx : x.length ≤ 100000) :
    Does prog w A (call (.ref 50) [.str x t]) (fun _ v => isStr (stripP x) v) s := by
  refine' enter (binds := [("msg", .str x t)]) (m := fun z => if z = "msg" then some (.str x t) else none) (cv := fun _ => none) C hb0 R ?ho ?hcd ?hbind ?hkind ?hnd ?hm ?hc ?h ?c1 ?c2 ?c3
  walk_at "my_enter"
  intro L h₁ tk S
  walk_at "go"
  all_goals (refine isStr.of ?_; simp only [stripP, ge_iff_le, *, if_true, if_false])
end
local macro_rules | `(tactic| walk_at "binaryOp Mod str ref") => `(tactic| ((refine' fmt9 ?b ?X ?n ?x ?y ?_; (case b => walk_at "at9"); (case X => decide +kernel); (case n => assumption); (case x => assumption); (case y => assumption)); intro _ _))
section
variable {prog : Program} {w : World} {mean : ExcName → Option Value} {mg mb : Str → Option Value} {base : Heap} {A : Around} {s : Shared}
set_option maxHeartbeats 4000000
theorem std_c {T : Addr} {x : Str} {t : Tok} {n : Int} {u : Tok} {y : Str} {t2 : Tok} (C : Cx w mean mg mb base) (hb0 : Sub base.get? s.heap.get?) (R : Room A 1) (hn : n.natAbs < 10 ^ 8) (hne : (x == Str.ofString "~") = false) (hx : x.length ≤ 100) (hT : At s.heap.get? T (PT [.str x t, .int n u, .str y t2])) (hy : y.length ≤ 100) :
    Does prog w A (call (.ref 106) [.ref T]) (fun _ v => isMsg x v) s := by
  refine' enter (binds := [("func_name", .ref T)]) (m := fun z => if z = "func_name" then some (.ref T) else none) (cv := fun _ => none) C hb0 R ?ho ?hcd ?hbind ?hkind ?hnd ?hm ?hc ?h ?c1 ?c2 ?c3
  walk_at "my_enter"
  intro L h₁ tk S
  walk_at "go"
  rename St _ _ _ _ _ _ _ _ => S
  refine eqTup (e := fun j => if j = 0 then false else (n == 0)) (S.getM (.tail _ (.head _))) (S.getM (.head _)) (by have := R.u; show A.units + 3 < _; omega) ?e (r := false) rfl ?_
  case e =>
    intro j h1 h2
    match j, h1, h2 with
    | 0, _, _ => exact (hne ▸ eqGives_str x _ t _).at _ _
    | 1, _, _ => exact (MeetsSeq.EqGives.int n 0 u _).at _ _
  have hl : (pctI n ++ Str.ofString "(" ++ y ++ Str.ofString ")").length ≤ 200 := by
    have := pctI_len hn
    simp only [PySem.Str.length_append]
    have e1 : (Str.ofString "(").length = 1 := by decide +kernel
    have e2 : (Str.ofString ")").length = 1 := by decide +kernel
    omega
  walk_at "go"
  exact ⟨_, hl, isStr.of rfl⟩
end
-- ReS
section
open PySem PySem.W PyProof.Rows PySem.Calls PySem.Builtin PySem.Builtin.Re
open PySem.Sem (wp)
theorem re_plain_m : PlainAttrs "re.Match" :=
  ⟨⟨"object.__getattribute__", by rw [typeLookup_type, builtinLookup_eq_fast]; kernel_rfl, by decide +kernel⟩, by rw [typeLookup_type, builtinLookup_eq_fast]; kernel_rfl⟩
theorem re_plain_p : PlainAttrs "re.Pattern" :=
  ⟨⟨"object.__getattribute__", by rw [typeLookup_type, builtinLookup_eq_fast]; kernel_rfl, by decide +kernel⟩, by rw [typeLookup_type, builtinLookup_eq_fast]; kernel_rfl⟩
theorem re_slot_span : Slot "re.Match" "span" "re.Match.span" :=
  .of (owner := "re.Match") (n := "span") (by rw [typeLookup_type, builtinLookup_eq_fast]; kernel_rfl) (by decide +kernel) (by decide +kernel) (by decide +kernel)
    (by first | exact .inl (by decide +kernel) | exact .inr (by decide +kernel)) (by rw [isSubtype_type]; kernel_rfl)
theorem re_slot_search : Slot "re.Pattern" "search" "re.Pattern.search" :=
  .of (owner := "re.Pattern") (n := "search") (by rw [typeLookup_type, builtinLookup_eq_fast]; kernel_rfl) (by decide +kernel) (by decide +kernel) (by decide +kernel)
    (by first | exact .inl (by decide +kernel) | exact .inr (by decide +kernel)) (by rw [isSubtype_type]; kernel_rfl)
theorem re_ty_span : typeOf (.builtin "re.Match.span") = pure (.type "method_descriptor") := by kernel_rfl
theorem re_ty_search : typeOf (.builtin "re.Pattern.search") = pure (.type "method_descriptor") := by kernel_rfl
theorem re_entry_span : entryFor table "re.Match.span" = some Builtin.«re.Match.span» := entryFor_of_tree (by kernel_rfl)
theorem re_entry_search : entryFor table "re.Pattern.search" = some Builtin.«re.Pattern.search» := entryFor_of_tree (by kernel_rfl)
theorem re_entry_string : entryFor table "re.Match.string" = some Builtin.«re.Match.string» := entryFor_of_tree (by kernel_rfl)
theorem re_args_span (a b : Value) : argsOk "re.Match.span" ⟨[a, b], []⟩ := by unfold argsOk; kernel_rfl
theorem re_args_search (a b : Value) : argsOk "re.Pattern.search" ⟨[a, b], []⟩ := by unfold argsOk; kernel_rfl
theorem re_lk_string : typeLookup (.type "re.Match") "string" = pure (some (.builtin "re.Match.string")) := by rw [typeLookup_type, builtinLookup_eq_fast]; kernel_rfl
theorem re_ty_string : typeOf (.builtin "re.Match.string") = pure (.type "member_descriptor") := by kernel_rfl
theorem re_md_get : Slot "member_descriptor" "__get__" "member_descriptor.__get__" :=
  .of (owner := "member_descriptor") (n := "__get__") (by rw [typeLookup_type, builtinLookup_eq_fast]; kernel_rfl) (by decide +kernel) (by decide +kernel) (by decide +kernel)
    (by first | exact .inl (by decide +kernel) | exact .inr (by decide +kernel)) (by rw [isSubtype_type]; kernel_rfl)
theorem re_md_set : Slot "member_descriptor" "__set__" "member_descriptor.__set__" :=
  .of (owner := "member_descriptor") (n := "__set__") (by rw [typeLookup_type, builtinLookup_eq_fast]; kernel_rfl) (by decide +kernel) (by decide +kernel) (by decide +kernel)
    (by first | exact .inl (by decide +kernel) | exact .inr (by decide +kernel)) (by rw [isSubtype_type]; kernel_rfl)
theorem re_md_entry : entryFor table "member_descriptor.__get__" = some Builtin.«member_descriptor.__get__» := entryFor_of_tree (by kernel_rfl)
theorem re_md_args (a b c : Value) : argsOk "member_descriptor.__get__" ⟨[a, b, c], []⟩ := by unfold argsOk; kernel_rfl
theorem re_ga_slot : Slot "re.Match" "__getattribute__" "object.__getattribute__" :=
  .of (owner := "object") (n := "__getattribute__") (by rw [typeLookup_type, builtinLookup_eq_fast]; kernel_rfl) (by decide +kernel) (by decide +kernel) (by decide +kernel)
    (by first | exact .inl (by decide +kernel) | exact .inr (by decide +kernel)) (by rw [isSubtype_type]; kernel_rfl)
theorem re_owner : (".".intercalate ("re.Match.string".cutAt '.').dropLast) = "re.Match" := by
  have e0 : "re.Match.string".cutAt '.' = ["re", "Match", "string"] := by first | rfl | decide +kernel
  rw [e0]; decide +kernel
theorem re_sub : isSubtype (.type "re.Match") (.type (".".intercalate ("re.Match.string".cutAt '.').dropLast)) = pure true := by
  rw [re_owner, isSubtype_type]; kernel_rfl
theorem re_noDict : (Manifest.find? "re.Match").elim true (·.hasDict) = false := by decide +kernel
section
variable {prog : Program} {w : World} {A : Around} {E : Value → Shared → Prop} {h : Heap} {g : Array GenState} {d : Drawn} {t : Nat} {os : OsState} {x : Str} {u u' : Tok} {a : Addr} {o : Obj} {fs : Array Value} {v : Value}
theorem re_get {R : Result → Shared → Prop} (hx : h.get? a = some o) (hc : o.cls = .type "re.Match") (hd : o.data = .fields fs) (hv : fs[0]? = some v) (hq : R (.ok (.ret v)) ⟨h, g, d, t, os⟩) :
    codeAny (model prog w) A (.call (.builtin "member_descriptor.__get__") ⟨[.builtin "re.Match.string", .ref a, .type "re.Match"], []⟩) R ⟨h, g, d, t, os⟩ := by
  have hT : (⟨h, g, d, t, os⟩ : Shared).TypeIs (.ref a) "re.Match" := ⟨_, hx, hc⟩
  have hT5 : (⟨h, g, d, t, os⟩ : Shared).TypeIs (.builtin "re.Match.string") "member_descriptor" := re_ty_string
  have f8 := re_sub
  refine codeAny_call_builtin re_md_get.plain re_md_entry (re_md_get.check _ _ _ _ _ _ _ _ hT5 (re_md_args _ _ _) ?_)
  repeat (any_goals (first | assumption | wp_step))
  refine ⟨Code.quiet_builtin _ (by decide +kernel), codeAny_builtin re_entry_string ?_⟩
  show wpAny _ _ (do ret (← field (.ref a) 0)) _ _ _
  refine wpAny_bind (wpAny_field hx hd hv ?_)
  exact wpAny_pure hq
theorem re_entry9 {Q : Fin → Shared → Prop} (hx : h.get? a = some o) (hc : o.cls = .type "re.Match") (hdict : o.dict = none) (hd : o.data = .fields fs) (hv : fs[0]? = some v) (hq : Q (.done (.ret v)) ⟨h, g, d, t, os⟩) :
    wpAny (model prog w) A (Builtin.«object.__getattribute__» ⟨[.ref a, .str "string" u'], []⟩) Q E ⟨h, g, d, t, os⟩ := by
  have hT : (⟨h, g, d, t, os⟩ : Shared).TypeIs (.ref a) "re.Match" := ⟨_, hx, hc⟩
  have hT5 : (⟨h, g, d, t, os⟩ : Shared).TypeIs (.builtin "re.Match.string") "member_descriptor" := re_ty_string
  have f4 := re_lk_string
  have f5 := re_ty_string
  have f6 := re_md_get.lookup
  have f7 := re_md_set.lookup
  repeat (any_goals (first | assumption | wp_step))
  refine re_get hx hc hd hv ?_
  repeat (any_goals (first | assumption | wp_step))
theorem re_call {R : Result → Shared → Prop} (hx : h.get? a = some o) (hc : o.cls = .type "re.Match") (hdict : o.dict = none) (hd : o.data = .fields fs) (hv : fs[0]? = some v) (hq : R (.ok (.ret v)) ⟨h, g, d, t, os⟩) :
    codeAny (model prog w) A (.call (.builtin "object.__getattribute__") ⟨[.ref a, .str "string" u'], []⟩) R ⟨h, g, d, t, os⟩ :=
  codeAny_call_builtin re_ga_slot.plain F.entry_object_getattribute (re_ga_slot.check _ _ _ _ _ _ _ _ (show (⟨h, g, d, t, os⟩ : Shared).TypeIs (.ref a) "re.Match" from ⟨_, hx, hc⟩) (F.args_object_getattribute_2 _ _) (re_entry9 hx hc hdict hd hv hq))
theorem re_by {fill expr : Bool} {Q : Value → Shared → Prop} (hx : h.get? a = some o) (hc : o.cls = .type "re.Match") (hdict : o.dict = none) (hd : o.data = .fields fs) (hv : fs[0]? = some (.str x u)) (hq : Q (.str x u) ⟨h, g, d, t, os⟩) :
    wpAny (model prog w) A (getAttrBy (.ref a) (.str "string" u') fill expr) Q E ⟨h, g, d, t, os⟩ := by
  have hT : (⟨h, g, d, t, os⟩ : Shared).TypeIs (.ref a) "re.Match" := ⟨_, hx, hc⟩
  have f2 := re_ga_slot.lookup
  have f3 := re_ga_slot.bind (.ref a)
  cases expr
  all_goals (
    repeat (any_goals (first | assumption | wp_step))
    refine re_call hx hc hdict hd hv ?_
    repeat (any_goals (first | assumption | wp_step)))
end
noncomputable def MObj (x : Str) (t : Tok) (T : Addr) (o : Obj) : Prop := o.cls = .type "re.Match" ∧ o.dict = none ∧ ∃ v1 v2 v3 v4, o.data = .fields #[.str x t, v1, v2, v3, v4, .ref T]
section
variable {prog : Program} {w : World} {A : Around} {E : Value → Shared → Prop} {s : Shared} {O V : View} {L : Addr} {m : Str → Option Value} {cl : List (Str × Addr)} {cv : Str → Option Value} {M : Led} {env : Env}
  {x : Str} {t u : Tok} {Q : Value → Shared → Prop} {a T : Addr}
theorem re_string {expr : Bool} (ha : At s.heap.get? a (MObj x t T)) (h : ∀ k, Q (.str x t) { s with toks := k }) : wpAny (model prog w) A (getAttr (.ref a) "string" expr) Q E s := by
  obtain ⟨o, e, c, dd, _, _, _, _, f⟩ := ha
  obtain ⟨hp, g, d, tk, os⟩ := s
  unfold getAttr
  exact wpAny_bind (wpAny_mkText (re_by e c dd f rfl (h _)))
theorem re_getSpan {pl : Sem Bool} {Q : Value × List Value → Shared → Prop} (ha : At s.heap.get? a (MObj x t T)) (h : Q (.builtin "re.Match.span", [.ref a]) s) : wpAny (model prog w) A (getMethod (.ref a) "span" pl) Q E s := by
  obtain ⟨o, e, c, dd, _, _, _, _, f⟩ := ha
  exact getMethod_builtin ⟨o, e, c⟩ re_plain_m re_slot_span re_ty_span (fun _ q => by cases q; exact ⟨o, e, dd⟩) h
theorem re_span {b e' : Int} (ha : At s.heap.get? a (MObj x t T)) (hT : At s.heap.get? T (PT [.int b 0, .int e' 0])) (S : St O V L m cl cv M s.heap) (h : ∀ d h' k t1 t2, St O V L m cl cv ((d, PT [.int b t1, .int e' t2]) :: M) h' → Q (.ref d) { s with heap := h', toks := k }) :
    wpAny (model prog w) A (call (.builtin "re.Match.span") [.ref a, .int 0 u]) Q E s := by
  obtain ⟨o, e, c, dd, _, _, _, _, f⟩ := ha
  refine wpAny_call_entry re_slot_span ⟨o, e, c⟩ re_entry_span ?_ (re_args_span _ _)
  unfold Builtin.«re.Match.span» reOneGroup
  obtain ⟨oT, eT, cT, n, dT⟩ := hT
  refine wpAny_bind (wpAny_bind (wpAny_of_eq (a := (.ref a, [.int 0 u])) (by first | rfl | kernel_rfl) ?_))
  dsimp only
  refine wpAny_bind ?_
  unfold reFound
  refine wpAny_bind (wpAny_fieldsOf e f ?_)
  refine wpAny_bind ?_
  unfold reRawItems
  refine wpAny_bind (wpAny_seqItems eT dT ?_)
  have hsp : Array.map reRawOf ((some ([Value.int b 0, Value.int e' 0].toArray)).getD #[]) = #[b, e'] := by simp [reRawOf]
  rw [hsp]
  refine wpAny_pure (wpAny_pure ?_)
  refine wpAny_bind (wpAny_of_eq (a := 0) (by first | rfl | kernel_rfl) ?_)
  refine wpAny_pure ?_
  dsimp only
  refine wpAny_bind (wpAny_mkInt (wpAny_bind (wpAny_mkInt (wpAny_bind (wpAny_newTuple ?_ (by rw [sizeLine_eq]; exact Nat.le_of_ble_eq_true rfl))))))
  exact wpAny_pure ⟨_, rfl, h _ _ _ _ _ (S.alloc _ ⟨rfl, 0, rfl⟩)⟩
end
end
-- ReT
section
open PySem PySem.W PyProof.Rows PySem.Calls PySem.Builtin PySem.Builtin.Re
open PySem.Sem (wp)
noncomputable def goM : Nat → Sre.M → Option Sre.M
  | 0, _ => none
  | k + 1, m => if (m.runFor reTurnSteps).outcome.isSome then some (m.runFor reTurnSteps) else goM k (m.runFor reTurnSteps)
noncomputable def codeIP : Array Nat := #[14, 8, 1, 2, 4294967295, 1, 1, 46, 0, 16, 46, 24, 9, 1, 4294967295, 13, 4, 8, 0, 0, 1, 6, 5, 1]
noncomputable def endOf (m : Sre.M) : Option (Nat × Nat) := match m.outcome with | some .matched => some (m.start, m.handed) | _ => none
noncomputable def cutIP (text : Array Nat) : Option (Nat × Nat) := (goM 100 (Sre.forSearch codeIP text 0 0 text.size false)).bind endOf
section
variable {Mo : Model} {A : Around} {E : Value → Shared → Prop} {s : Shared}
theorem drive9 {Q : Sre.M → Shared → Prop} : ∀ (k T : Nat) (m m' : Sre.M), k ≤ T → goM k m = some m' → Q m' s → wpAny Mo A (reDrive T m) Q E s
  | 0, _, _, _, _, e, _ => nomatch e
  | k + 1, 0, _, _, h, _, _ => absurd h (by omega)
  | k + 1, T + 1, m, m', h, e, q => by
    unfold goM at e
    unfold reDrive
    by_cases c : (m.runFor reTurnSteps).outcome.isSome = true
    · rw [if_pos c] at e
      cases e
      exact wpAny_ite (KPc.ite_yes c (wpAny_pure q))
    · rw [if_neg c] at e
      exact wpAny_ite (KPc.ite_no c (wpAny_bind (wpAny_rule (drive9 k T _ _ (by omega) e q))))
theorem rules9 {Q : PUnit → Shared → Prop} (f : Nat → PUnit → Sem (ForInStep PUnit)) (hf : ∀ i (Q : ForInStep PUnit → Shared → Prop), Q (.yield ⟨⟩) s → wpAny Mo A (f i ⟨⟩) Q E s) (hq : Q ⟨⟩ s) : ∀ l : List Nat, wpAny Mo A (forIn l PUnit.unit f) Q E s
  | [] => wpAny_pure hq
  | i :: l => by
    rw [List.forIn_cons]
    exact wpAny_bind (hf i _ (rules9 f hf hq l))
theorem run9 {m m' : Sre.M} {p : Nat × Nat} {Q : Option Sre.M → Shared → Prop} (hg : goM 100 m = some m') (he : endOf m' = some p) (h : Q (some m') s) : wpAny Mo A (reRunToEnd m) Q E s := by
  unfold reRunToEnd
  refine wpAny_bind (drive9 100 (2 ^ 64) m m' (by decide) hg ?_)
  refine wpAny_bind (rules9 _ (fun i Q hq => ?_) ?_ _)
  · show wpAny _ _ (if m'.seen.has i = true then _ else _) _ _ _
    by_cases c : m'.seen.has i = true
    · exact wpAny_ite (KPc.ite_yes c (wpAny_bind (wpAny_rule (wpAny_pure hq))))
    · exact wpAny_ite (KPc.ite_no c (wpAny_pure hq))
  · unfold endOf at he
    split at he
    · rename_i q
      rw [q]
      exact wpAny_pure h
    · cases he
end
noncomputable def PPat (ct : Addr) (o : Obj) : Prop := o.cls = .type "re.Pattern" ∧ o.dict = none ∧ ∃ v0 v1 v3 v4 t2 t6, o.data = .fields #[v0, v1, .int 0 t2, v3, v4, .ref ct, .int 0 t6]
section
variable {prog : Program} {w : World} {A : Around} {E : Value → Shared → Prop} {s : Shared} {O V : View} {L : Addr} {m : Str → Option Value} {cl : List (Str × Addr)} {cv : Str → Option Value} {M : Led} {env : Env}
  {x : Str} {t u : Tok} {Q : Value → Shared → Prop} {a ct : Addr} {vs : List Value}
theorem re_getSearch {pl : Sem Bool} {Q : Value × List Value → Shared → Prop} (ha : At s.heap.get? a (PPat ct)) (h : Q (.builtin "re.Pattern.search", [.ref a]) s) : wpAny (model prog w) A (getMethod (.ref a) "search" pl) Q E s := by
  obtain ⟨o, e, c, dd, _⟩ := ha
  exact getMethod_builtin ⟨o, e, c⟩ re_plain_p re_slot_search re_ty_search (fun _ q => by cases q; exact ⟨o, e, dd⟩) h
theorem re_search {b e' : Nat} (ha : At s.heap.get? a (PPat ct)) (hct : At s.heap.get? ct (PT vs)) (hcode : (Array.map reRawOf vs.toArray).map (·.toNat) = codeIP) (hcut : cutIP x.cps = some (b, e')) (hsz : x.cps.size ≤ (2 ^ 63 - 1 : Int).toNat) (S : St O V L m cl cv M s.heap)
    (h : ∀ d T h' k, St O V L m cl cv ((d, MObj x t T) :: (T, PT [.int b 0, .int e' 0]) :: M) h' → Q (.ref d) { s with heap := h', toks := k }) :
    wpAny (model prog w) A (call (.builtin "re.Pattern.search") [.ref a, .str x t]) Q E s := by
  obtain ⟨o, e, c, dd, v0, v1, v3, v4, t2, t6, f⟩ := ha
  obtain ⟨oT, eT, cT, n, dT⟩ := hct
  refine wpAny_call_entry re_slot_search ⟨o, e, c⟩ re_entry_search ?_ (re_args_search _ _)
  unfold Builtin.«re.Pattern.search» reTarget
  dsimp only
  refine wpAny_bind (wpAny_bind (wpAny_of_eq (a := [some (.str x t), none, none]) (by first | rfl | kernel_rfl) ?_))
  dsimp only
  refine wpAny_bind (wpAny_pure (wpAny_bind (wpAny_pure (wpAny_bind (wpAny_fieldsOf e f ?_)))))
  refine wpAny_bind (wpAny_of_eq (a := (x.cps, 0)) (by first | rfl | kernel_rfl) ?_)
  dsimp only
  refine wpAny_ite (KPc.ite_no Bool.false_ne_true ?_)
  refine wpAny_ite (KPc.ite_no Bool.false_ne_true ?_)
  refine wpAny_bind (wpAny_of_eq (a := ()) (by first | rfl | kernel_rfl) ?_)
  refine wpAny_bind ?_
  unfold reRawItems
  refine wpAny_bind (wpAny_seqItems eT dT ?_)
  refine wpAny_pure (wpAny_pure ?_)
  unfold reAnswer
  have hmin : min ((2 ^ 63 - 1 : Int).toNat) x.cps.size = x.cps.size := Nat.min_eq_right hsz
  show wpAny _ _ (reRunToEnd (Sre.forSearch (Array.map (·.toNat) (Array.map reRawOf vs.toArray)) x.cps 0 (min 0 x.cps.size) (min ((2 ^ 63 - 1 : Int).toNat) x.cps.size) false) >>= _) _ _ _
  rw [hcode, hmin, Nat.zero_min]
  have hcut' := hcut
  unfold cutIP at hcut'
  obtain ⟨m', hg, hend⟩ := Option.bind_eq_some_iff.mp hcut'
  refine wpAny_bind (run9 hg hend ?_)
  dsimp only
  refine wpAny_bind ?_
  show wpAny _ _ (reNewMatch _ _ 0 _ _ m') _ _ _
  obtain ⟨hb, he⟩ : m'.start = b ∧ m'.handed = e' := by
    unfold endOf at hend
    split at hend
    · cases hend; exact ⟨rfl, rfl⟩
    · cases hend
  unfold reNewMatch
  refine wpAny_ite (KPc.ite_no Bool.false_ne_true ?_)
  rw [hb, he]
  refine wpAny_bind (wpAny_newTuple ?_ (by rw [sizeLine_eq]; exact Nat.le_of_ble_eq_true rfl))
  have S1 := S.alloc { cls := .type "tuple", data := .seq [rawInt (b : Int), rawInt (e' : Int)].toArray } (P := PT [.int b 0, .int e' 0]) ⟨rfl, 0, rfl⟩
  unfold newFields
  refine wpAny_newObj_type ?_ (by exact Nat.le_of_ble_eq_true rfl)
  refine wpAny_pure ⟨_, rfl, h _ _ _ _ (St.alloc S1 _ ⟨rfl, rfl, _, _, _, _, rfl⟩)⟩
end
end
-- Fn4
section
variable {prog : Program} {w : World} {mean : ExcName → Option Value} {mg mb : Str → Option Value} {base : Heap} {A : Around} {s : Shared}
set_option maxHeartbeats 4000000
end
local macro_rules | `(tactic| walk_at "getMethod ref") => `(tactic| ((rename St _ _ _ _ _ _ _ _ => S9); first
  | (refine' dGetMethod ?h F.slot_dict_values F.type_dict_values ?_; (case h => walk_at "at9"))
  | (refine' dGetMethod ?h F.slot_dict_items F.type_dict_items ?_; (case h => walk_at "at9"))
  | (refine' dGetMethod ?h F.slot_dict_get F.type_dict_get ?_; (case h => walk_at "at9"))
  | (refine' re_getSpan ?h ?_; (case h => walk_at "at9"))
  | (refine' re_getSearch ?h ?_; (case h => walk_at "at9"))))
section
variable {prog : Program} {w : World} {mean : ExcName → Option Value} {mg mb : Str → Option Value} {base : Heap} {A : Around} {s : Shared}
set_option maxHeartbeats 4000000
end
local macro_rules | `(tactic| walk_at "call builtin:re.Match.span") => `(tactic| ((rename St _ _ _ _ _ _ _ _ => S9); (refine' re_span ?h ?g S9 ?_; (case h => walk_at "at9"); (case g => walk_at "at9")); clear S9; intro d9 h9 _ _ _ S))
section
variable {prog : Program} {w : World} {mean : ExcName → Option Value} {mg mb : Str → Option Value} {base : Heap} {A : Around} {s : Shared}
set_option maxHeartbeats 4000000
end
local macro_rules | `(tactic| walk_at "getAttr ref") => `(tactic| ((rename St _ _ _ _ _ _ _ _ => S9); (refine' re_string ?h ?_; (case h => walk_at "at9")); intro _))
section
variable {prog : Program} {w : World} {mean : ExcName → Option Value} {mg mb : Str → Option Value} {base : Heap} {A : Around} {s : Shared}
set_option maxHeartbeats 4000000
end
local macro_rules | `(tactic| walk_at "call builtin:re.Pattern.search") => `(tactic| ((rename St _ _ _ _ _ _ _ _ => S9); (refine' re_search ?a ?b ?c ?d ?z S9 ?_; (case a => walk_at "at9"); (case b => walk_at "at9"); (case c => assumption); (case d => assumption); (case z => assumption)); clear S9; intro d9 T9 h9 _ S))
section
variable {prog : Program} {w : World} {mean : ExcName → Option Value} {mg mb : Str → Option Value} {base : Heap} {A : Around} {s : Shared}
set_option maxHeartbeats 4000000
end
local macro_rules | `(tactic| walk_at "subscriptTail Attribute Name Slice str ref") => `(tactic| walk_at "my_sl")
section
variable {prog : Program} {w : World} {mean : ExcName → Option Value} {mg mb : Str → Option Value} {base : Heap} {A : Around} {s : Shared}
set_option maxHeartbeats 4000000
end
local macro_rules | `(tactic| walk_at "subscriptTail") => `(tactic| walk_at "my_sl")
section
variable {prog : Program} {w : World} {mean : ExcName → Option Value} {mg mb : Str → Option Value} {base : Heap} {A : Around} {s : Shared}
set_option maxHeartbeats 4000000
end
local macro_rules | `(tactic| walk_at "assign Tuple") => `(tactic| (
  (rename St _ _ _ _ _ _ _ _ => S9);
  (have R9 := ‹Room _ _›);
  with_unfolding_all (refine' asg9 S9 ?r ?z ?n ?q ?_; (case r => exact (Room.h R9 :)); (case z => walk_at "at9"); (case n => rfl); (case q => rfl));
  clear S9; intro h9 S))
section
variable {prog : Program} {w : World} {mean : ExcName → Option Value} {mg mb : Str → Option Value} {base : Heap} {A : Around} {s : Shared}
set_option maxHeartbeats 4000000
noncomputable def cutP (x : Str) (b e : Nat) : Str := Txt.slice x none (some (b : Int)) ++ Txt.slice x (some (e : Int)) none
theorem unmatched_c {a T : Addr} {x : Str} {t : Tok} {b e : Nat} (C : Cx w mean mg mb base) (hb0 : Sub base.get? s.heap.get?) (R : Room A 1) (ha : At s.heap.get? a (MObj x t T)) (hT : At s.heap.get? T (PT [.int b 0, .int e 0])) (hx : x.length ≤ 10000) :
    Does prog w A (call (.ref 38) [.ref a]) (fun _ v => isStr (cutP x b e) v) s := by
  refine' enter (binds := [("match", .ref a)]) (m := fun z => if z = "match" then some (.ref a) else none) (cv := fun _ => none) C hb0 R ?ho ?hcd ?hbind ?hkind ?hnd ?hm ?hc ?h ?c1 ?c2 ?c3
  walk_at "my_enter"
  intro L h₁ tk S
  have h1 : (Txt.slice x none (some (b : Int))).length ≤ x.length := Txt.slice_le _ _ _
  have h2 : (Txt.slice x (some (e : Int)) none).length ≤ x.length := Txt.slice_le _ _ _
  have hx' : x.length ≤ 100000 := by omega
  walk_at "go"
  exact isStr.of rfl
end
-- PureS
section
open PySem PySem.W PyProof.Rows PySem.Calls PySem.Builtin PySem.Builtin.Str PySem.StrLaws
theorem occ_head9 (x y : Str) (hi : Nat) :
    (occurrences x y 0 hi 1 = [] ∧ ∀ i, ¬ StrLaws.At x y hi i) ∨ ∃ i r, occurrences x y 0 hi 1 = i :: r ∧ StrLaws.At x y hi i ∧ ∀ k, k < i → ¬ StrLaws.At x y hi k := by
  rw [occ_eq]
  rcases occ_first x y hi 1 (Nat.le_refl _) (List.range' 0 (hi + 1 - 0)) 0 (fun _ _ => Nat.zero_le _) with ⟨h0, hn⟩ | ⟨pre, a, post, e, h0, ha, hn⟩
  · refine .inl ⟨by rw [h0], fun i hi => ?_⟩
    exact hn i (by have := hi.1; simp [List.mem_range'] <;> omega) hi
  · refine .inr ⟨a, ((forIn (List.range' 0 (hi + 1 - 0)) ((#[] : Array Nat), 0) (occBody x y hi 1)).run.fst.toList).tail, ?_, ha, fun k hk => hn k (range'_split e k hk)⟩
    generalize (forIn (List.range' 0 (hi + 1 - 0)) ((#[] : Array Nat), 0) (occBody x y hi 1)).run.fst = arr at h0
    have h1 : arr.toList[0]? = some a := by simpa using h0
    cases hL : arr.toList with
    | nil => rw [hL] at h1; cases h1
    | cons b t => rw [hL] at h1; simp at h1; rw [h1]; rfl
theorem at_one {x : Str} {c hi i : Nat} (hh : hi ≤ x.length) : StrLaws.At x ⟨#[c]⟩ hi i ↔ i < hi ∧ x.cps.toList[i]? = some c := by
  unfold StrLaws.At
  constructor
  · rintro ⟨a, b⟩
    have a' : i + 1 ≤ hi := a
    exact ⟨by omega, (subAt_one x c i).mp ⟨Nat.le_trans a hh, b⟩⟩
  · rintro ⟨a, b⟩
    exact ⟨a, ((subAt_one x c i).mpr b).2⟩
noncomputable def lastPart (r : Str) : Str := ⟨(r.cps.toList.drop (match lastOccurrence r ⟨#[46]⟩ 0 r.length with | some i => i + 1 | none => 0)).toArray⟩
theorem last_le {r : Str} {c i hi : Nat} (h : lastOccurrence r ⟨#[c]⟩ 0 hi = some i) : i + 1 ≤ hi := by
  rw [last_eq] at h
  have key : ∀ (l : List Nat) (st : Option Nat), (∀ i, st = some i → i + 1 ≤ hi) → ∀ i, (forIn l st (lastBody r ⟨#[c]⟩ hi)).run = some i → i + 1 ≤ hi := by
    intro l
    induction l with
    | nil => intro st h i e; exact h i e
    | cons a l ih =>
      intro st h i e
      rw [List.forIn_cons] at e
      unfold lastBody at e
      split at e
      · rename_i q
        exact ih (some a) (fun i e => by cases e; exact q.1) i e
      · exact ih st h i e
  exact key _ none (fun _ e => nomatch e) i h
theorem strip_text (r z : Str) (hr : ∀ c ∈ r.cps.toList, c ≠ 10 ∧ c ≠ 58) : stripP (r ++ Str.ofString ":" ++ z) = lastPart r := by
  have e1 : Str.ofString "\n" = ⟨#[10]⟩ := by decide +kernel
  have e2 : Str.ofString ":" = ⟨#[58]⟩ := by decide +kernel
  have e3 : Str.ofString "." = ⟨#[46]⟩ := by decide +kernel
  rw [e2]
  have hxl : (r ++ (⟨#[58]⟩ : Str) ++ z).cps.toList = r.cps.toList ++ 58 :: z.cps.toList := by
    rw [PySem.Str.cps_append, PySem.Str.cps_append]; simp
  have hlen : (r ++ (⟨#[58]⟩ : Str) ++ z).length = r.length + 1 + z.length := by
    rw [PySem.Str.length_append, PySem.Str.length_append]; rfl
  generalize hX : (r ++ (⟨#[58]⟩ : Str) ++ z) = x at hxl hlen
  have rl : r.cps.toList.length = r.length := by simp [PySem.Str.length]
  have lowc : ∀ i, i < r.length → ∀ c, x.cps.toList[i]? = some c → c ≠ 10 ∧ c ≠ 58 := by
    intro i hi c e
    rw [hxl, List.getElem?_append_left (by omega)] at e
    exact hr c (List.mem_of_getElem? e)
  have atc : x.cps.toList[r.length]? = some 58 := by
    rw [hxl, List.getElem?_append_right (by omega), rl]; simp
  -- the end
  have hE : ∃ E : Nat, r.length + 1 ≤ E ∧ E ≤ x.length ∧ (if Txt.find x (Str.ofString "\n") ≥ 0 then Txt.find x (Str.ofString "\n") else (x.length : Int)) = E := by
    rw [e1]
    unfold Txt.find
    rcases occ_head9 x ⟨#[10]⟩ x.length with ⟨a, b⟩ | ⟨i, t, a, b, _⟩
    · rw [a]; exact ⟨x.length, by omega, Nat.le_refl _, rfl⟩
    · rw [a]
      obtain ⟨b1, b2⟩ := (at_one (Nat.le_refl _)).mp b
      refine ⟨i, ?_, by omega, if_pos (by show (0:Int) ≤ (i : Int); omega)⟩
      rcases Nat.lt_or_ge i (r.length + 1) with q | q
      · rcases Nat.lt_or_ge i r.length with q' | q'
        · exact absurd rfl (lowc i q' 10 b2).1
        · have : i = r.length := by omega
          rw [this, atc] at b2; cases b2
      · exact q
  obtain ⟨E, hE1, hE2, hE3⟩ := hE
  have f2 : findP x (Str.ofString ":") 0 (E : Int) = (r.length : Int) := by
    rw [e2]
    unfold findP
    have m1 : atIdx x.length 0 = 0 := rfl
    have m2 : min (atIdx x.length (E : Int)) x.length = E := by
      unfold atIdx
      rw [if_neg (by omega)]
      omega
    rw [m1, m2]
    rcases occ_head9 x ⟨#[58]⟩ E with ⟨a, b⟩ | ⟨i, t, a, b, c⟩
    · exact absurd ((at_one hE2).mpr ⟨by omega, atc⟩) (b r.length)
    · rw [a]
      obtain ⟨b1, b2⟩ := (at_one hE2).mp b
      have hi : i = r.length := by
        rcases Nat.lt_trichotomy i r.length with q | q | q
        · exact absurd rfl (lowc i q 58 b2).2
        · exact q
        · exact absurd ((at_one hE2).mpr ⟨by omega, atc⟩) (c r.length q)
      rw [hi]
  have lasts : lastOccurrence x ⟨#[46]⟩ 0 r.length = lastOccurrence r ⟨#[46]⟩ 0 r.length := by
    rw [last_eq, last_eq]
    have : lastBody x ⟨#[46]⟩ r.length = lastBody r ⟨#[46]⟩ r.length := by
      funext i st
      unfold lastBody
      have hiff : (i + (⟨#[46]⟩ : Str).length ≤ r.length ∧ subAt x ⟨#[46]⟩ i = true) ↔ (i + (⟨#[46]⟩ : Str).length ≤ r.length ∧ subAt r ⟨#[46]⟩ i = true) := by
        have h1 := at_one (x := x) (c := 46) (hi := r.length) (i := i) (by omega)
        have h2 := at_one (x := r) (c := 46) (hi := r.length) (i := i) (Nat.le_refl _)
        unfold StrLaws.At at h1 h2
        rw [h1, h2]
        constructor
        · rintro ⟨a, b⟩
          rw [hxl, List.getElem?_append_left (by omega)] at b
          exact ⟨a, b⟩
        · rintro ⟨a, b⟩
          rw [hxl, List.getElem?_append_left (by omega)]
          exact ⟨a, b⟩
      simp only [hiff]
    rw [this]
  have f3 : rfindP x (Str.ofString ".") 0 (r.length : Int) = (match lastOccurrence r ⟨#[46]⟩ 0 r.length with | some i => (i : Int) | none => -1) := by
    rw [e3]
    unfold rfindP
    have m1 : atIdx x.length 0 = 0 := rfl
    have m2 : min (atIdx x.length (r.length : Int)) x.length = r.length := by
      unfold atIdx
      rw [if_neg (by omega)]
      omega
    rw [m1, m2, lasts]
    all_goals (cases lastOccurrence r ⟨#[46]⟩ 0 r.length <;> rfl)
  unfold stripP
  simp only [hE3, f2]
  rw [if_pos (show (r.length : Int) ≥ 0 from Int.natCast_nonneg _), f3]
  have fin : ∀ k : Nat, k ≤ r.length → Txt.slice x (some (k : Int)) (some (r.length : Int)) = ⟨(r.cps.toList.drop k).toArray⟩ := by
    intro k hk
    have := sliceText_plain (x := x) (i := (k : Int)) (j := (r.length : Int)) ⟨by omega, by omega, by rw [hxl, List.length_append, rl]; omega⟩
    refine Eq.trans this ?_
    rw [hxl]
    congr 2
    have : ((r.length : Int) - (k : Int)).toNat = (r.cps.toList.drop k).length := by rw [List.length_drop]; omega
    rw [Int.toNat_natCast, List.drop_append_of_le_length (by omega), this, List.take_left']
    rfl
  unfold lastPart
  cases hl : lastOccurrence r ⟨#[46]⟩ 0 r.length with
  | none => simpa using fin 0 (Nat.zero_le _)
  | some i =>
    have := fin (i + 1) (last_le hl)
    simp only [ge_iff_le, Int.natCast_nonneg, if_true]
    simpa using this
end
-- Str10
section
open PySem PySem.W PyProof.Rows PySem.Calls PySem.Builtin
theorem IntsAre.at9 : ∀ {vs : List Value} {ns : List Int}, IntsAre vs ns → ∀ {i : Nat} {c : Int}, ns[i]? = some c → ∃ t, vs[i]? = some (.int c t)
  | _, _, .nil, _, _, e => nomatch e
  | _, _, .cons n t _, 0, _, e => by cases e; exact ⟨t, rfl⟩
  | _, _, .cons _ _ r, i + 1, _, e => IntsAre.at9 r (i := i) e
theorem StrsAre.at9 : ∀ {vs : List Value} {ns : List Str}, StrsAre vs ns → ∀ {i : Nat} {c : Str}, ns[i]? = some c → ∃ t, vs[i]? = some (.str c t)
  | _, _, .nil, _, _, e => nomatch e
  | _, _, .cons n t _, 0, _, e => by cases e; exact ⟨t, rfl⟩
  | _, _, .cons _ _ r, i + 1, _, e => StrsAre.at9 r (i := i) e
section
variable {prog : Program} {w : World} {A : Around} {E : Value → Shared → Prop} {s : Shared} {O V : View} {L : Addr} {m : Str → Option Value} {cl : List (Str × Addr)} {cv : Str → Option Value} {M : Led} {env : Env}
  {Q : Value → Shared → Prop} {l : Addr} {vs : List Value}
theorem lenL9 (hl : At s.heap.get? l (PI vs)) {n : Nat} (hn : vs.length = n) (hf : n ≤ 100000) (h : ∀ t k, Q (.int (n : Int) t) { s with toks := k }) : wpAny (model prog w) A (call (.builtin "len") [.ref l]) Q E s := by
  subst hn
  refine len_list hl.list (by rw [List.size_toArray]; omega) ?_
  rw [List.size_toArray]
  exact h _ _
theorem range9_1 {n : Int} {t : Tok} (S : St O V L m cl cv M s.heap) (h : ∀ r h' k t1 t2, IsRange h' r 0 n 1 t1 t t2 → St O V L m cl cv M h' → Q (.ref r) { s with heap := h', toks := k }) : wpAny (model prog w) A (call (.type "range") [.int n t]) Q E s :=
  call_range_1 (h _ _ _ _ _ (IsRange.new _ _ _ _ _ _ _) (keptSt _ _ S))
theorem range9_2 {a b : Int} {t u : Tok} (S : St O V L m cl cv M s.heap) (h : ∀ r h' k t2, IsRange h' r a b 1 t u t2 → St O V L m cl cv M h' → Q (.ref r) { s with heap := h', toks := k }) : wpAny (model prog w) A (call (.type "range") [.int a t, .int b u]) Q E s :=
  call_range_2 (h _ _ _ _ (IsRange.new _ _ _ _ _ _ _) (keptSt _ _ S))
theorem range9_3 {a b c : Int} {t u v : Tok} (S : St O V L m cl cv M s.heap) (hc : c ≠ 0) (hb : (b - a).natAbs < 1073741824) (hb' : c.natAbs < 1073741824) (h : ∀ r h' k, IsRange h' r a b c t u v → St O V L m cl cv M h' → Q (.ref r) { s with heap := h', toks := k }) : wpAny (model prog w) A (call (.type "range") [.int a t, .int b u, .int c v]) Q E s :=
  call_range_3 hc (h _ _ _ (IsRange.new _ _ _ _ _ _ _) (keptSt _ _ S)) (Or.inl (PyProof.noPylong_small (by omega)))
theorem itemI9 {value slice : Expr} {ns : List Int} {k c : Int} {u : Tok} (hl : At s.heap.get? l (LI ns)) (h0 : 0 ≤ k) (hf : k < 100000) (hx : ns[k.toNat]? = some c) (h : ∀ t, Q (.int c t) s)
    (hs : subscripted slice false (.ref l) (.int k u) = operate [.ref l, .int k u] (getItem (.ref l) (.int k u)) := by with_unfolding_all rfl)
    (ht : ∀ r, letTemporaryGo value (.ref l) r = pure () := by intro _; with_unfolding_all rfl) : wpAny (model prog w) A (subscriptTail value slice (.ref l) (.int k u)) Q E s := by
  obtain ⟨vs, p, q⟩ := LI.list hl
  obtain ⟨t, e⟩ := IntsAre.at9 q hx
  exact item_list p h0 (by omega) (by simpa using e) (h t) hs ht
theorem itemS9 {value slice : Expr} {ns : List Str} {k : Int} {c : Str} {u : Tok} (hl : At s.heap.get? l (LS ns)) (h0 : 0 ≤ k) (hf : k < 100000) (hx : ns[k.toNat]? = some c) (h : ∀ t, Q (.str c t) s)
    (hs : subscripted slice false (.ref l) (.int k u) = operate [.ref l, .int k u] (getItem (.ref l) (.int k u)) := by with_unfolding_all rfl)
    (ht : ∀ r, letTemporaryGo value (.ref l) r = pure () := by intro _; with_unfolding_all rfl) : wpAny (model prog w) A (subscriptTail value slice (.ref l) (.int k u)) Q E s := by
  obtain ⟨vs, p, q⟩ := LS.list hl
  obtain ⟨t, e⟩ := StrsAre.at9 q hx
  exact item_list p h0 (by omega) (by simpa using e) (h t) hs ht
theorem rng_small {n : Nat} (h : n ≤ 100000) : Builtin.Range.small 0 (n : Int) 1 = true := small_one (by omega) (by omega) (by omega) (by omega)
theorem rng_size (n : Nat) : Builtin.Range.rangeSize 0 (n : Int) 1 = (n : Int) := by
  unfold Builtin.Range.rangeSize
  simp
  omega
theorem src_rng {r : Addr} {n : Nat} {t u v : Tok} (hh : A.handled = none) (S : St O V L m cl cv M s.heap) (hr : IsRange s.heap r 0 (n : Int) 1 t u v) (hn : n ≤ 100000)
    (h : SrcQ prog w A O V n (fun i v => ∃ t, v = .int (i : Int) t) s Q) : wpAny (model prog w) A (pyIter (.ref r)) Q E s :=
  src_range hh hr (rng_small hn) (rng_size n) fun I fp wr Sti h' X => h I fp wr Sti h' ⟨⟨X.W.sub, X.W.frame, fun i s Q E hi st hq => X.W.item i s Q E hi st (fun v h t hp => hq v h t (let ⟨t, e⟩ := hp; ⟨t, by simpa using e⟩)), X.W.done, X.W.self⟩, X.k, X.fr, X.nd, X.st, X.live, X.fp⟩
theorem src_rngG {r : Addr} {n : Nat} {a b c : Int} {t u v : Tok} (hh : A.handled = none) (S : St O V L m cl cv M s.heap) (hr : IsRange s.heap r a b c t u v) (hsmall : Builtin.Range.small a b c = true) (hn : Builtin.Range.rangeSize a b c = (n : Int))
    (h : SrcQ prog w A O V n (fun i v => ∃ t, v = .int (a + i * c) t) s Q) : wpAny (model prog w) A (pyIter (.ref r)) Q E s :=
  src_range hh hr hsmall hn h
theorem str9 {a : Int} {t : Tok} (ha : a.natAbs < 2 ^ 60) (h : ∀ t k, Q (.str (Str.ofString (toString a)) t) { s with toks := k }) : wpAny (model prog w) A (call (.type "str") [.int a t]) Q E s :=
  P.str_of_int (shown (N := 2 ^ 1920) (by omega) (by omega) (Int.le_refl _)) (h _ _)
end
end
local macro_rules | `(tactic| walk_at "call type:range") => `(tactic| ((rename St _ _ _ _ _ _ _ _ => S9); first
  | ((with_reducible refine range9_1 S9 ?_); clear S9; intro r9 h9 _ _ _ hr9 S)
  | ((with_reducible refine range9_2 S9 ?_); clear S9; intro r9 h9 _ _ hr9 S)
  | ((refine' range9_3 S9 ?a ?b ?c ?_; (case a => first | assumption | decide | omega); (case b => first | assumption | omega); (case c => first | assumption | decide | omega)); clear S9; intro r9 h9 _ hr9 S)))
section
open PySem PySem.W PyProof.Rows PySem.Calls PySem.Builtin
end
local macro_rules | `(tactic| walk_at "call type:str") => `(tactic| ((with_reducible show wpAny _ _ (call (Value.type "str") [Value.int _ _]) _ _ _); (refine' str9 ?a ?_; (case a => first | assumption | omega)); intro _ _))
section
open PySem PySem.W PyProof.Rows PySem.Calls PySem.Builtin
end
-- CallK
section
open PySem PySem.W PyProof.Rows PySem.Calls PySem.Builtin
noncomputable def InK (w : World) (h : Heap) : Prop := (hd.heap_39 w.params).In h
section
variable {prog : Program} {w : World} {A : Around} {E : Value → Shared → Prop} {s : Shared} {O V : View} {L : Addr} {m : Str → Option Value} {cl : List (Str × Addr)} {cv : Str → Option Value} {M : Led} {env : Env}
  {mean : ExcName → Option Value} {mg mb : Str → Option Value} {base : Heap}
theorem inK9 (C : Cx w mean mg mb base) (hb : Sub base.get? O) {h : Heap} (S : St O V L m cl cv M h) : InK w h := fun a o e => S.keepO _ _ (hb _ _ (C.X a o e))
theorem callK9 {Mo : Model} {pos : Pos} {f : Addr} {oc : Value} {od : Option Addr} {fd : FuncData} {osl : Array (Option Value)} {e : Expr} {rest : List Expr} {Q : Value → Shared → Prop} (C : Cx w mean mg mb base) (ho : (hd.heap_39 w.params).lookup f = some ⟨oc, od, .func fd, osl⟩)
    (h : wpAny Mo A (spliced (backTo pos (starEach (e :: rest) env))) (fun vs s₁ => InK w s₁.heap ∧ wpAny Mo A (call (.ref f) vs) Q E s₁) E s)
    (he : starEach (e :: rest) env = (false, eval e env) :: starEach rest env := by rfl) : wpAny Mo A (callWith pos (.ref f) [] (backTo pos (starEach (e :: rest) env)) []) Q E s :=
  callWith_def (o := ⟨oc, od, .func fd, osl⟩) rfl (wpAny_mono h (fun vs s₁ p => ⟨p.1 _ _ ho, p.2⟩) fun _ _ e => e) he
end
theorem sum9 {prog : Program} {w : World} {A : Around} {E Q : Value → Shared → Prop} {s : Shared} {O V : View} {L l : Addr} {m : Str → Option Value} {cl : List (Str × Addr)} {cv : Str → Option Value} {M : Led} {vs : List Value} {ns : List Int} (S : St O V L m cl cv M s.heap) (hh : A.handled = none) (hl : At s.heap.get? l (PI vs)) (hi : IntsAre vs ns)
    (h : ∀ h' tk t', St O V L m cl cv M h' → Q (.int ns.sum t') { s with heap := h', toks := tk }) : wpAny (model prog w) A (call (.builtin "sum") [.ref l]) Q E s := by
  have h1 := hl.list
  obtain ⟨xs, hx⟩ := hi.allInts.items
  have e := hi.numsOf
  rw [show vs = vs.toArray.toList from rfl, hx, nums_intItems] at e
  rw [hx] at h1
  refine sum_intListG hh h1 fun h' tk t' hk => ?_
  have := h h' tk t' (S.grown hk)
  rw [preSum_eq, List.take_of_length_le (by simp)]
  rw [e]; exact this
theorem IntsAre.snoc {vs : List Value} {ns : List Int} (h : IntsAre vs ns) (n : Int) (t : Tok) : IntsAre (vs ++ [.int n t]) (ns ++ [n]) := by
  induction h with
  | nil => exact .cons n t .nil
  | cons a b _ ih => exact .cons a b ih
theorem IntsAre.val {vs : List Value} {ns : List Int} (h : IntsAre vs ns) : ∀ {i : Nat} {v : Value}, vs[i]? = some v → ∃ n t, v = .int n t ∧ ns[i]? = some n := by
  induction h with
  | nil => intro i v e; cases e
  | cons a b _ ih =>
    intro i v e
    cases i with
    | zero => cases e; exact ⟨_, _, rfl, rfl⟩
    | succ i => exact ih e
theorem StrsAre.val {vs : List Value} {ns : List Str} (h : StrsAre vs ns) : ∀ {i : Nat} {v : Value}, vs[i]? = some v → ∃ n t, v = .str n t ∧ ns[i]? = some n := by
  induction h with
  | nil => intro i v e; cases e
  | cons a b _ ih =>
    intro i v e
    cases i with
    | zero => cases e; exact ⟨_, _, rfl, rfl⟩
    | succ i => exact ih e
theorem StrsAre.snoc {vs : List Value} {ns : List Str} (h : StrsAre vs ns) (n : Str) (t : Tok) : StrsAre (vs ++ [.str n t]) (ns ++ [n]) := by
  induction h with
  | nil => exact .cons n t .nil
  | cons a b _ ih => exact .cons a b ih
theorem StrsAre.pairs {vs : List Value} {ns : List Str} (h : StrsAre vs ns) : ∃ xs : List (Str × Tok), vs = strValues xs ∧ ns = xs.map (·.1) := by
  induction h with
  | nil => exact ⟨[], rfl, rfl⟩
  | cons a b _ ih => obtain ⟨xs, e1, e2⟩ := ih; exact ⟨(a, b) :: xs, by rw [e1]; rfl, by rw [e2]; rfl⟩
theorem join9 {prog : Program} {w : World} {A : Around} {E Q : Value → Shared → Prop} {s : Shared} {l : Addr} {sep : Str} {t : Tok} {vs : List Value} {ns : List Str} (hl : At s.heap.get? l (PI vs)) (hi : StrsAre vs ns) (hB : ∀ y ∈ ns, y.length ≤ 1000) (hs : sep.length ≤ 10) (hn : ns.length ≤ 1000)
    (h : ∀ t k, Q (.str (Txt.join sep ns) t) { s with toks := k }) : wpAny (model prog w) A (call (.builtin "str.join") [.str sep t, .ref l]) Q E s := by
  obtain ⟨xs, rfl, rfl⟩ := StrsAre.pairs hi
  have hok' := StrLaws.joinFits (sep := sep) hB (by have := Nat.mul_le_mul hn hs; omega)
  have hok : JoinOk sep (xs.map (·.1)) = true := by unfold JoinOk; rw [Bool.not_eq_true']; exact hok'
  exact call_meets F.slot_str_join (typeIs_str _ _ _) F.entry_str_join (F.args_str_join_2 _ _) (meets_str_join_list sep t l xs hok') ⟨hl.list, post_join xs ⟨joinFit_length hok', fun t' k => h t' k⟩⟩
theorem Elt.go {O V V' : View} {C : Addr} {cl : List (Str × Addr)} {cv mC : Str → Option Value} {MM : Led} {J : View → Prop} {s : Shared} {h : Heap} {tk : Nat} (S : St O V' C mC cl cv MM h) (hV : Sub V V') (j : J V') : Elt O V C cl cv MM J s { s with heap := h, toks := tk } := ⟨V', mC, h, tk, rfl, hV, S, j⟩
theorem St.tail {O V : View} {L : Addr} {m : Str → Option Value} {cl : List (Str × Addr)} {cv : Str → Option Value} {x : Addr × (Obj → Prop)} {M : Led} {h : Heap} (S : St O V L m cl cv (x :: M) h) : St O V L m cl cv M h := S.drop (pre := []) rfl
end
local macro_rules | `(tactic| walk_at "my_mid") => `(tactic| (
  (with_reducible show InK _ _ ∧ _);
  (rename St _ _ _ _ _ _ _ _ => S9);
  refine' ⟨inK9 ?c ?sub S9, ?_⟩;
  (case c => assumption);
  (case sub => assumption)))
section
open PySem PySem.W PyProof.Rows PySem.Calls PySem.Builtin
end
local macro_rules | `(tactic| walk_at "callWith ref") => `(tactic| (refine' callK9 ?c ?ho ?_ ?he; (case c => assumption); (case ho => k_is); (case he => rfl)))
section
open PySem PySem.W PyProof.Rows PySem.Calls PySem.Builtin
end
local macro_rules | `(tactic| walk_at "stuck9") => `(tactic| first
  | (with_reducible show wpAny _ _ (subscriptTail _ _ (Value.ref _) (Value.int _ _)) _ _ _)
  | (with_reducible show wpAny _ _ (subscriptTail _ _ (Value.ref _) (Value.str _ _)) _ _ _)
  | (with_reducible show wpAny _ _ (pyIter (Value.ref _)) _ _ _)
  | (with_reducible show wpAny _ _ (call (Value.ref _) _) _ _ _)
  | (with_reducible show wpAny _ _ (call (Value.builtin "len") [Value.ref _]) _ _ _)
  | (with_reducible show wpAny _ _ (setItem (Value.ref _) _ _) _ _ _))
section
open PySem PySem.W PyProof.Rows PySem.Calls PySem.Builtin
end
local macro_rules | `(tactic| walk_at "go") => `(tactic| repeat' (first | walk_at "my_end" | walk_at "my_mid" | ((fail_if_success (walk_at "stuck9")); walk1) | (dsimp only; (fail_if_success (walk_at "stuck9")); walk1)))
section
open PySem PySem.W PyProof.Rows PySem.Calls PySem.Builtin
end
-- Fn5
section
variable {prog : Program} {w : World} {mean : ExcName → Option Value} {mg mb : Str → Option Value} {base : Heap} {A : Around} {s : Shared}
set_option maxHeartbeats 4000000
noncomputable def codeVs : List Value := [.int 14 0, .int 8 0, .int 1 0, .int 2 0, .int 4294967295 0, .int 1 0, .int 1 0, .int 46 0, .int 0 0, .int 16 0, .int 46 0, .int 24 0, .int 9 0, .int 1 0, .int 4294967295 0, .int 13 0, .int 4 0, .int 8 0, .int 0 0, .int 0 0, .int 1 0, .int 6 0, .int 5 0, .int 1 0]
theorem codeVs_ok : (Array.map PySem.Builtin.Re.reRawOf codeVs.toArray).map (·.toNat) = codeIP := by decide +kernel
structure NextOk (W : Str) (n : Nat) (d : Nat → Int) (R : Nat → Str) (tail : Str) : Prop where
  wl : W.length ≤ 50
  r0 : Txt.slice W none (some (-1)) = R 0
  len : ∀ i, i < n → (R i).length ≤ 50
  ne : ∀ i, i < n → (R i == Str.ofString "~") = false
  plain : ∀ i, i < n → ∀ c ∈ (R i).cps.toList, c ≠ 10 ∧ c ≠ 58
  dig : ∀ i, i < n → PySem.intText? (lastPart (R i)) = some (d i) ∧ (lastPart (R i)).length ≤ 50 ∧ (d i).natAbs < 2 ^ 20
  cut : ∀ i, i + 1 < n → ∃ b e, cutIP (R i).cps = some (b, e) ∧ cutP (R i) b e = R (i + 1)
  end_ : ∃ b e, cutIP W.cps = some (b, e) ∧ cutP W b e = tail ∧ tail.length ≤ 50
theorem ints_len {h : Heap} {a : Addr} {ns : List Int} (x : At h.get? a (LI ns)) : ∃ vs, At h.get? a (PI vs) ∧ IntsAre vs ns ∧ vs.length = ns.length := let ⟨o, e, vs, p, q⟩ := x; ⟨vs, ⟨o, e, p⟩, q, q.length⟩
noncomputable def valP (more : Int) (ts : List Int) (d : Nat → Int) : Nat → Int
  | 0 => more
  | i + 1 => valP more ts d i + (ts.getD i 0) * d i
theorem next_c {W : Str} {t : Tok} {tl : Addr} {ts : List Int} {more p line : Int} {t1 t2 t3 : Tok} {d : Nat → Int} {Rs : Nat → Str} {tail : Str} (C : Cx w mean mg mb base) (hb0 : Sub base.get? s.heap.get?) (R : Room A 2) (ok : NextOk W ts.length d Rs tail) (hline : line.natAbs < 10 ^ 8) (hl : At s.heap.get? tl (LI ts)) (hn1 : 1 ≤ ts.length) (hn2 : ts.length ≤ 8) (hmo : more.natAbs < 2 ^ 20) (hts : ∀ c ∈ ts, c.natAbs < 2 ^ 20) (hp : 0 < p) (hp2 : p.natAbs < 100) :
    Does prog w A (call (.ref 137) [.str W t, .ref tl, .int more t1, .int p t2, .int line t3]) (fun _ v => isStr (Str.ofString (toString ((valP more ts d ts.length).fmod p)) ++ (Str.ofString "." ++ tail)) v) s := by
  refine' enter (binds := [("window", .str W t), ("taps", .ref tl), ("more", .int more t1), ("prime", .int p t2), ("line", .int line t3)]) (m := fun z => if z = "line" then some (.int line t3) else if z = "prime" then some (.int p t2) else if z = "more" then some (.int more t1) else if z = "taps" then some (.ref tl) else if z = "window" then some (.str W t) else none) (cv := fun _ => none) C hb0 R ?ho ?hcd ?hbind ?hkind ?hnd ?hm ?hc ?h ?c1 ?c2 ?c3
  walk_at "my_enter"
  intro L h₁ tk S
  have hW : W.length ≤ 100000 := Nat.le_trans ok.wl (by decide)
  have hnl : ts.length ≤ 100000 := by omega
  obtain ⟨vs, hvs, hvi, hvl⟩ := ints_len hl
  have hpat : At s.heap.get? 43 (PPat 42) := ⟨_, hb0 _ _ (C.X _ _ (by k_is)), rfl, rfl, _, _, _, _, _, _, rfl⟩
  have hcode : At s.heap.get? 42 (PT codeVs) := ⟨_, hb0 _ _ (C.X _ _ (by k_is)), rfl, 0, rfl⟩
  have hco := codeVs_ok
  walk_at "go"
  rename St _ _ _ _ _ _ _ _ => S
  refine lenL9 (Old.at (.inl hvs) S) hvl hnl ?_
  intro _ _
  walk_at "go"
  rename St _ _ _ _ _ _ _ _ => S
  rename IsRange _ _ _ _ _ _ _ _ => hr9
  refine src_rng R.h S hr9 hnl fun I fp wr Sti h X => ?_
  refine for_src X S rfl rfl rfl (fun i V m cv M => M = [] ∧ (∃ t, m "value" = some (.int (valP more ts d i) t)) ∧ (∃ t, m "rest" = some (.str (Rs (if i < ts.length then i else i - 1)) t)) ∧ m "window" = some (.str W t) ∧ m "taps" = some (.ref tl) ∧ m "prime" = some (.int p t2) ∧ m "line" = some (.int line t3)) ?h0 ?turn ?done
  case h0 => rw [if_pos (show 0 < ts.length from hn1), ← ok.r0]; exact ⟨rfl, ⟨_, rfl⟩, ⟨_, rfl⟩, rfl, rfl, rfl, rfl⟩
  case turn =>
    rintro i v V' m' cv' M' hb h tk hi ⟨ti, rfl⟩ hV ⟨rfl, ⟨tv, h1⟩, ⟨tr, h2⟩, h3, h4, h5, h6⟩ S
    clear X
    rw [if_pos hi] at h2
    obtain ⟨dg1, dg2, dg3⟩ := ok.dig i hi
    walk_at "go"
    rename St _ _ _ _ _ _ _ _ => S
    refine use (std_c (y := Str.ofString "a.b") C (hb0.trans S.keepO) R.deeper hline (ok.ne i hi) (Nat.le_trans (ok.len i hi) (by decide)) (S.getM (.head _)) (by decide +kernel)) S ?_
    rintro v h' tk V'' hV2 S ⟨F, hF, z, hz, t9, rfl⟩
    walk_at "go"
    rename St _ _ _ _ _ _ _ _ => S
    have hlen : (Rs i ++ Str.ofString ":" ++ z).length ≤ 100000 := by
      have := ok.len i hi
      have e1 : (Str.ofString ":").length = 1 := by decide +kernel
      rw [PySem.Str.length_append, PySem.Str.length_append]; omega
    refine use (strip_c C (hb0.trans S.keepO) R.deeper hlen) S ?_
    rintro v h' tk V3 hV3 S ⟨F, hF, t9, rfl⟩
    rw [strip_text _ _ (ok.plain i hi)]
    walk_at "go"
    rename St _ _ _ _ _ _ _ _ => S
    have hx : ts[((i : Nat) : Int).toNat]? = some (ts.getD i 0) := by simp [hi, List.getD_eq_getElem?_getD]
    have hxb : (ts.getD i 0).natAbs < 2 ^ 20 := hts _ (List.mem_of_getElem? hx)
    refine itemI9 (S.getO hl) (by omega) (by omega) hx ?_
    intro tx
    walk_at "go"
    refine KIN.call_text dg1 (Nat.le_trans dg2 (by decide)) ?_
    walk_at "go"
    rename St _ _ _ _ _ _ _ _ => S
    refine use (mul_c C (hb0.trans S.keepO) R.deeper (by omega)) S ?_
    rintro v h' tk V4 hV4 S ⟨F, hF, t9, rfl⟩
    walk_at "go"
    rename St _ _ _ _ _ _ _ _ => S
    refine use (iadd_c C (hb0.trans S.keepO) R.deeper) S ?_
    rintro v h' tk V5 hV5 S ⟨F, hF, t8, rfl⟩
    walk_at "go"
    rename St _ _ _ _ _ _ _ _ => S
    refine lenL9 (Old.at (.inl hvs) S) hvl hnl ?_
    intro _ _
    by_cases hlast : i + 1 < ts.length
    · obtain ⟨b, e, hcut, hcut2⟩ := ok.cut i hlast
      have hsz : (Rs i).cps.size ≤ (2 ^ 63 - 1 : Int).toNat := Nat.le_trans (ok.len i hi) (by decide)
      walk_at "go"
      · rename St _ _ _ _ _ _ _ _ => S
        refine use (unmatched_c C (hb0.trans S.keepO) R.deeper (S.getM (.head _)) (S.getM (.tail _ (.head _))) (Nat.le_trans (ok.len i hi) (by decide))) S ?_
        rintro v h' tk V6 hV6 S ⟨F, hF, t7, rfl⟩
        rw [hcut2]
        walk_at "go"
        rename St _ _ _ _ _ _ _ _ => S
        refine Turned.go S.tail.tail.tail (hV2.trans (hV3.trans (hV4.trans (hV5.trans hV6)))) ⟨rfl, ⟨_, rfl⟩, ?_, h3, h4, h5, h6⟩
        rw [if_pos hlast]
        exact ⟨_, rfl⟩
      · omega
    · walk_at "go"
      · omega
      · rename St _ _ _ _ _ _ _ _ => S
        refine Turned.go S.tail (hV2.trans (hV3.trans (hV4.trans hV5))) ⟨rfl, ⟨_, rfl⟩, ?_, h3, h4, h5, h6⟩
        rw [if_neg hlast]
        exact ⟨_, h2⟩
  case done =>
    rintro V' m' cv' M' h tk hV ⟨rfl, ⟨tv, h1⟩, _, h3, h4, h5, h6⟩ S
    clear X
    obtain ⟨b, e, hcut, hcut2, htl⟩ := ok.end_
    subst hcut2
    have hsz : W.cps.size ≤ (2 ^ 63 - 1 : Int).toNat := Nat.le_trans ok.wl (by decide)
    have hm0 : 0 ≤ (valP more ts d ts.length).fmod p := Int.fmod_nonneg_of_pos _ hp
    have hm1 : (valP more ts d ts.length).fmod p < p := Int.fmod_lt_of_pos _ hp
    have hp0 : p ≠ 0 := by omega
    walk_at "go"
    rename St _ _ _ _ _ _ _ _ => S
    refine use (unmatched_c C (hb0.trans S.keepO) R.deeper (S.getM (.head _)) (S.getM (.tail _ (.head _))) (Nat.le_trans ok.wl (by decide))) S ?_
    rintro v h' tk V6 hV6 S ⟨F, hF, t7, rfl⟩
    walk_at "go"
    rename St _ _ _ _ _ _ _ _ => S
    refine use (mod_c C (hb0.trans S.keepO) R.deeper hp0) S ?_
    rintro v h' tk V7 hV7 S ⟨F, hF, t6, rfl⟩
    have hl1 : (Str.ofString (toString ((valP more ts d ts.length).fmod p))).length ≤ 10 := toString_length_le (k := 10) hm0 (by decide) (by omega)
    have hl2 : (Str.ofString ".").length = 1 := by decide +kernel
    have hl3 : (Str.ofString "." ++ cutP W b e).length = 1 + (cutP W b e).length := by rw [PySem.Str.length_append, hl2]
    walk_at "go"
    rename St _ _ _ _ _ _ _ _ => S
    refine use (concat_c C (hb0.trans S.keepO) R.deeper (by omega)) S ?_
    rintro v h' tk V8 hV8 S ⟨F, hF, t5, rfl⟩
    walk_at "go"
    exact ⟨_, rfl⟩
end
-- Fn6
section
variable {prog : Program} {w : World} {mean : ExcName → Option Value} {mg mb : Str → Option Value} {base : Heap} {A : Around} {s : Shared}
set_option maxHeartbeats 4000000
end
local macro_rules | `(tactic| walk_at "eval ListComp") => `(tactic| (
  with_unfolding_all (refine' eval_lc ?c ?k ?n ?_; (case c => rfl); (case k => rfl); (case n => decide))))
section
variable {prog : Program} {w : World} {mean : ExcName → Option Value} {mg mb : Str → Option Value} {base : Heap} {A : Around} {s : Shared}
set_option maxHeartbeats 4000000
noncomputable def isB (v : Value) : Prop := ∃ n t, v = .int n t ∧ 0 ≤ n ∧ n < 10 ^ 9
theorem sum_c {l : Addr} {ns : List Int} {pl : Int} {t : Tok} (C : Cx w mean mg mb base) (hb0 : Sub base.get? s.heap.get?) (R : Room A 1) (hl : At s.heap.get? l (LI ns)) (hn : ns.length ≤ 63) :
    Does prog w A (call (.ref 125) [.ref l, .int pl t]) (fun _ v => isB v) s := by
  refine' enter (binds := [("script", .ref l), ("place", .int pl t)]) (m := fun z => if z = "place" then some (.int pl t) else if z = "script" then some (.ref l) else none) (cv := fun _ => none) C hb0 R ?ho ?hcd ?hbind ?hkind ?hnd ?hm ?hc ?h ?c1 ?c2 ?c3
  walk_at "my_enter"
  intro L h₁ tk S
  obtain ⟨vs, hvs, hvi, hvl⟩ := ints_len hl
  have hz : vs.length ≤ 100000 := by omega
  walk_at "go"
  rename St _ _ _ _ _ _ _ _ => S
  obtain ⟨V1, S, hV1, hA⟩ := S.freeze (pre := []) rfl
  have hp := hvi.pick (some pl) (some 60) (some 4)
  refine src_list R.h S (.inr (hA.mono fun _ x => x.pi)) fun I fp wr Sti h X => ?_
  refine lcE_src X S (by decide) rfl rfl (by have := slicePick_size_le vs.toArray (some pl) (some 60) (some 4); rw [sizeLine_eq]; simp at this ⊢; omega) (fun i V ys => ∃ ms, IntsAre ys ms ∧ (∀ x ∈ ms, 0 ≤ x ∧ x < 10 ^ 6) ∧ ms.length ≤ i) ⟨[], .nil, by simp, Nat.le_refl _⟩ ?turn ?done
  case turn =>
    rintro i v C1 D V' ys mC hb h tk hi hv hV ⟨ms, hm1, hm2, hm3⟩ S
    clear X
    obtain ⟨n, tn, rfl, _⟩ := IntsAre.val hp hv
    walk_at "go"
    rename St _ _ _ _ _ _ _ _ => S
    refine Elt.go S (Sub.refl _) ⟨ms ++ [n.fmod (10 ^ 6)], IntsAre.snoc hm1 _ _, ?_, by simp; exact hm3⟩
    intro x hx
    rcases List.mem_append.mp hx with hx | hx
    · exact hm2 x hx
    · rw [List.mem_singleton.mp hx]
      exact ⟨Int.fmod_nonneg_of_pos _ (by decide), Int.fmod_lt_of_pos _ (by decide)⟩
  rintro D V' ys h tk hV ⟨ms, hm1, hm2, hm3⟩ S
  clear X
  have hsz := slicePick_size_le vs.toArray (some pl) (some 60) (some 4)
  walk_at "go"
  rename St _ _ _ _ _ _ _ _ => S
  refine sum9 S R.h ((S.getM (.head _)).mono fun _ x => x.pi) hm1 ?_
  intro h' tk t' S
  walk_at "go"
  have hb : ∀ l : List Int, (∀ x ∈ l, 0 ≤ x ∧ x < 10 ^ 6) → 0 ≤ l.sum ∧ l.sum ≤ l.length * 10 ^ 6 := by
    intro l
    induction l with
    | nil => intro _; simp
    | cons a r ih =>
      intro h
      have h1 := h a (.head _)
      have h2 := ih fun x hx => h x (.tail _ hx)
      rw [List.sum_cons, List.length_cons]
      constructor
      · omega
      · push_cast; omega
  have h1 := hb ms hm2
  have h2 : ms.length ≤ 63 := by simp at hsz; simp at hm3; omega
  exact ⟨_, _, rfl, h1.1, by omega⟩
noncomputable def digN (p c i : Nat) : Nat := c / p ^ i % p
noncomputable def winS (p sz c : Nat) : List Str := (List.range sz).map fun j => Str.ofString (toString ((digN p c (sz - 1 - j) : Nat) : Int))
noncomputable def winT (p sz c : Nat) : Str := Txt.join (Str.ofString ".") (winS p sz c) ++ Str.ofString "\n"
theorem window_c {c p sz : Nat} {t t1 t2 : Tok} (C : Cx w mean mg mb base) (hb0 : Sub base.get? s.heap.get?) (R : Room A 1) (hc : c < 1000) (hp : 1 ≤ p) (hp2 : p ≤ 10) (hs : 1 ≤ sz) (hs2 : sz ≤ 8) :
    Does prog w A (call (.ref 130) [.int c t, .int p t1, .int sz t2]) (fun _ v => isStr (winT p sz c) v) s := by
  refine' enter (binds := [("code", .int c t), ("prime", .int p t1), ("size", .int sz t2)]) (m := fun z => if z = "size" then some (.int sz t2) else none) (cv := fun z => if z = "prime" then some (.int p t1) else if z = "code" then some (.int c t) else none) C hb0 R ?ho ?hcd ?hbind ?hkind ?hnd ?hm ?hc ?h ?c1 ?c2 ?c3
  walk_at "my_enter"
  intro L h₁ tk S
  walk_at "go"
  rename St _ _ _ _ _ _ _ _ => S
  rename IsRange _ _ _ _ _ _ _ _ => hr9
  have hsm : Builtin.Range.small ((sz : Int) - 1) (-1) (-1) = true ∧ Builtin.Range.rangeSize ((sz : Int) - 1) (-1) (-1) = (sz : Int) := by
    have : sz = 1 ∨ sz = 2 ∨ sz = 3 ∨ sz = 4 ∨ sz = 5 ∨ sz = 6 ∨ sz = 7 ∨ sz = 8 := by omega
    rcases this with h | h | h | h | h | h | h | h <;> subst h <;> decide +kernel
  refine src_rngG R.h S hr9 hsm.1 hsm.2 fun I fp wr Sti h X => ?_
  refine lcE_src X S (by decide) rfl rfl (by rw [sizeLine_eq]; omega) (fun i V ys => StrsAre ys ((winS p sz c).take i)) .nil ?turn ?done
  case turn =>
    rintro i v C1 D V' ys mC hb h tk hi ⟨ti, rfl⟩ hV hm S
    clear X
    walk_at "go"
    have he : ((sz : Int) - 1 + (i : Int) * -1).toNat = sz - 1 - i := by omega
    have hp0 : 0 < p ^ (sz - 1 - i) := Nat.pow_pos hp
    have hp8 : p ^ (sz - 1 - i) ≤ 10 ^ 8 := Nat.le_trans (Nat.pow_le_pow_left hp2 _) (Nat.pow_le_pow_right (by decide) (by omega))
    have hcast : ((p : Int) ^ (sz - 1 - i)) = ((p ^ (sz - 1 - i) : Nat) : Int) := by push_cast; rfl
    rw [he, hcast]
    refine PyProof.Rows.floordiv_int (by omega) ?_ (Or.inl (PyProof.noPylong_small (by omega)))
    have hdig : ((c : Int).fdiv ((p ^ (sz - 1 - i) : Nat) : Int)).fmod (p : Int) = ((digN p c (sz - 1 - i) : Nat) : Int) := by
      unfold digN
      rw [Int.fdiv_eq_ediv_of_nonneg _ (by omega), Int.fmod_eq_emod_of_nonneg _ (by omega)]
      push_cast; rfl
    have hdl : digN p c (sz - 1 - i) < 10 := Nat.lt_of_lt_of_le (Nat.mod_lt _ hp) hp2
    have hpi : (p : Int) ≠ 0 := by omega
    walk_at "go"
    rw [hdig]
    walk_at "go"
    rename St _ _ _ _ _ _ _ _ => S
    refine Elt.go S (Sub.refl _) ?_
    have hg : (winS p sz c)[i]? = some (Str.ofString (toString ((digN p c (sz - 1 - i) : Nat) : Int))) := by
      unfold winS
      rw [List.getElem?_map, List.getElem?_range hi]; rfl
    rw [List.take_add_one, hg]
    exact StrsAre.snoc hm _ _
  rintro D V' ys h tk hV hm S
  clear X
  have hwl : (winS p sz c).length = sz := by simp [winS]
  rw [List.take_of_length_le (by omega)] at hm
  have hB : ∀ y ∈ winS p sz c, y.length ≤ 10 := by
    intro y hy
    obtain ⟨j, hj, rfl⟩ := List.mem_map.mp hy
    have hdl : digN p c (sz - 1 - j) < 10 := Nat.lt_of_lt_of_le (Nat.mod_lt _ hp) hp2
    exact toString_length_le (k := 10) (by omega) (by decide) (by omega)
  walk_at "go"
  rename St _ _ _ _ _ _ _ _ => S
  refine join9 ((S.getM (.head _)).mono fun _ x => x.pi) hm (fun y hy => Nat.le_trans (hB y hy) (by decide)) (by decide +kernel) (by omega) ?_
  intro tj kj
  have hjl : (Txt.join (Str.ofString ".") (winS p sz c)).length ≤ 1000 := by
    show (PySem.Builtin.Str.glued _ _).length ≤ 1000
    rw [StrLaws.glued_eq_join]
    refine Nat.le_trans (StrLaws.join_length_le _ _) ?_
    have h1 := StrLaws.sumLen_le _ hB
    have h2 : (Str.ofString ".").length = 1 := by decide +kernel
    rw [h2]; omega
  have hnl : (Str.ofString "\n").length = 1 := by decide +kernel
  walk_at "go"
  exact ⟨_, rfl⟩
end
-- ZipS
section
variable {prog : Program} {w : World} {A : Around} {s s₁ : Shared} {env : Env} {O V : View} {L : Addr} {m : Str → Option Value} {cl cl' : List (Str × Addr)} {cv : Str → Option Value} {M : Led}
  {I : Addr} {fp wr : List Addr} {n : Nat} {Pt : Nat → Array Value → Prop} {Sti : Nat → Heap → Prop} {Mid : Nat → Addr → Heap → Prop}
theorem compLoop_pair9 {elt iter : Expr} {xk xv : Str} {pk pv pt : Pos} {x1 : Nat} {scope : Scope} {pos : Pos} {D C : Addr} {cenv : Env} {mC : Str → Option Value} {R : Result → Shared → Prop} (hh : A.handled = none) (W : WalksT prog w A I fp wr n Pt Sti Mid)
    (hxk : cenv.kindOf xk = some .local) (hxv : cenv.kindOf xv = some .local) (hk : cenv.scope.kind = .function) (hC : cenv.locals = C) (hsz : n ≤ sizeLine) (hnd : wr.Nodup) (hst : Sti 0 s.heap) (hlive : ∀ i h, Sti i h → ∀ b ∈ wr, ∃ o, h.get? b = some o)
    (hmid : ∀ i T h, Mid i T h → ∀ b ∈ wr, ∃ o, h.get? b = some o) (hPt : ∀ i vals, Pt i vals → ∃ v0 v1, vals = #[v0, v1])
    (hfp : ∀ b ∈ fp, b ∈ wr ∨ (∃ o, O b = some o) ∨ ∃ o, V b = some o)
    (S : St O V C mC cl cv (cM env m D [] s.heap wr M) s.heap) (J : InvC) (h0 : J 0 V [])
    (turn : ∀ i v0 v1 V' ys (mC : Str → Option Value) hb h tk, i < n → Pt i #[v0, v1] → Sub V V' → J i V' ys → St O V' C (fun y => if y = xv then some v1 else if y = xk then some v0 else mC y) cl cv (cM env m D ys hb wr M) h →
      wpAny (model prog w) A (eval elt cenv) (fun y => Elt O V' C cl cv (cM env m D ys hb wr M) (fun V'' => J (i + 1) V'' (ys ++ [y])) s) (fun _ _ => False) { s with heap := h, toks := tk })
    (done : ∀ V' ys (mC : Str → Option Value) h tk, Sub V V' → J n V' ys → St O V' C mC cl cv ((env.locals, PN m) :: (D, PL ys) :: M) h → R (.ok .next) { s with heap := h, toks := tk }) :
    codeAny (model prog w) A (.compLoop (.ListComp elt [⟨.Tuple [.Name xk pk, .Name xv pv] x1 pt, iter, [], 0⟩] scope pos) 0 (.ref I) (.ref D) cenv) R s := by
  subst hC
  refine LCp.codeAny_compLoop_pair
    (fun k s' => ∃ V' mC' ys hb tk i, s' = { s with heap := hb, toks := tk } ∧ Sti i hb ∧ Sub V V' ∧ St O V' cenv.locals mC' cl cv (cM env m D ys hb wr M) hb ∧ J i V' ys ∧ i ≤ n ∧ ys.length ≤ i ∧ k = n + 1 - i) ?_ (n + 1)
    ⟨V, mC, [], s.heap, s.toks, 0, rfl, hst, Sub.refl _, S, h0, Nat.zero_le _, Nat.zero_le _, rfl⟩
  rintro k' s' ⟨V', mC', ys, hb, tk, i, rfl, hst', hV, S', hJ, hi, hys, rfl⟩
  have SD := S'.dropOwn
  have off := S'.ownOff
  by_cases hlt : i < n
  · refine W.item i _ _ _ hlt hst' fun T vals h₁ tk₁ hP _ hT hM hk₁ => ?_
    obtain ⟨v0, v1, rfl⟩ := hPt i vals hP
    have S1 : St O V' cenv.locals mC' cl cv (cM env m D ys h₁ wr M) h₁ := SD.addOwn hk₁ hnd off (hmid _ _ _ hM)
    refine W.go _ _ _ i T _ _ _ hM fun h₂ hst₂ hk₂ => ?_
    have S2 : St O V' cenv.locals mC' cl cv (cM env m D ys h₂ wr M) h₂ := S1.dropOwn.addOwn hk₂ hnd S1.ownOff (hlive _ _ hst₂)
    have hT₂ : h₂.IsTuple T #[v0, v1] := let ⟨o, e, r⟩ := hT; ⟨o, hk₂ T o (W.apart _ _ _ hM) e, r⟩
    refine pair_assign (s := { s with heap := h₂, toks := tk₁ }) hh hxk hxv hk S2 hT₂ fun h₃ tk₃ _ S3 => ?_
    refine wpAny_mono (turn i v0 v1 V' ys mC' h₂ h₃ _ hlt hP hV hJ S3) (fun y s₄ t => ?_) fun _ _ e => e.elim
    obtain ⟨V'', mC'', h₄, tk₄, rfl, hV₄, S4, hJ₄⟩ := t
    have hst₄ : Sti (i + 1) h₄ := W.frame _ _ _ hst₂ fun b hb o e => by
      rcases hfp b hb with q | ⟨o', q⟩ | ⟨o', q⟩
      · exact S4.own_get q e
      · have e1 := S2.keepO _ _ q; rw [e] at e1; cases e1; exact S4.keepO _ _ q
      · have e1 := S2.keepV _ _ (hV _ _ q); rw [e] at e1; cases e1; exact S4.keepV _ _ (hV₄ _ _ (hV _ _ q))
    have hD : h₄.PlainList D ys.toArray := by
      obtain ⟨o, e, k, rfl⟩ := S4.getM (a := D) (P := PL ys) (by simp)
      exact ⟨k, e⟩
    refine wpAny_list_append_plain (hsz := by rw [List.size_toArray]; omega) hD fun h₅ hD₅ hs₅ => ?_
    have S5 : St O V'' cenv.locals mC'' cl cv ((own h₂ wr ++ [(env.locals, PN m)]) ++ (D, PL (ys ++ [y])) :: M) h₅ := by
      refine S4.turn (P := PL ys) (pre := own h₂ wr ++ [(env.locals, PN m)]) (post := M) (by rw [List.append_assoc]; rfl) ?_ hs₅
      obtain ⟨k, e⟩ := hD₅
      exact ⟨_, e, k, by simp⟩
    have S6 : St O V'' cenv.locals mC'' cl cv (own h₂ wr ++ ((env.locals, PN m) :: (D, PL (ys ++ [y])) :: M)) h₅ := by rw [List.append_assoc] at S5; exact S5
    have hst₅ : Sti (i + 1) h₅ := W.frame _ _ _ hst₄ fun b hb o e => by
      rcases hfp b hb with q | ⟨o', q⟩ | ⟨o', q⟩
      · obtain ⟨o'', e''⟩ := hlive _ _ hst₂ b q
        have e4 := S4.own_get q e''
        rw [e] at e4; cases e4
        exact S6.own_get q e''
      · have e1 := S4.keepO _ _ q; rw [e] at e1; cases e1; exact S6.keepO _ _ q
      · have e1 := S4.keepV _ _ (hV₄ _ _ (hV _ _ q)); rw [e] at e1; cases e1; exact S6.keepV _ _ (hV₄ _ _ (hV _ _ q))
    exact ⟨n + 1 - (i + 1), by omega, V'', mC'', ys ++ [y], h₅, tk₄, i + 1, rfl, hst₅, hV.trans hV₄, S6.dropOwn.addOwn (fun _ _ _ e => e) hnd S6.ownOff (hlive _ _ hst₅), hJ₄, hlt, by rw [List.length_append, List.length_singleton]; omega, rfl⟩
  · have hin : i = n := by omega
    subst hin
    refine W.done _ _ _ hst' fun h₁ tk₁ hk₁ => ?_
    refine done V' ys mC' h₁ tk₁ hV hJ ⟨SD.ns.at' fun o e => hk₁ _ o (fun q => (off _ q).2.2.1 rfl) e, ?_, ?_, SD.apart, SD.off, ?_, SD.coff, SD.cinj, ?_, SD.moff, SD.nd⟩
    · exact fun a o e => hk₁ a o (fun q => by rw [(off a q).1] at e; cases e) (SD.keepO a o e)
    · exact fun a o e => hk₁ a o (fun q => by rw [(off a q).2.1] at e; cases e) (SD.keepV a o e)
    · exact fun p hp => let ⟨o, a, b⟩ := SD.cell p hp; ⟨o, hk₁ _ _ (fun q => (off _ q).2.2.2.1 (List.mem_map_of_mem hp)) a, b⟩
    · exact fun p hp => let ⟨o, a, b⟩ := SD.led p hp; ⟨o, hk₁ _ _ (fun q => (off _ q).2.2.2.2 (List.mem_map_of_mem hp)) a, b⟩
theorem lc_pair9 {elt iter : Expr} {xk xv : Str} {pk pv pt : Pos} {x1 : Nat} {scope : Scope} {pos : Pos} {E : Value → Shared → Prop} {RR : Value → Addr → Result → Shared → Prop} (hh : A.handled = none) (W : WalksT prog w A I fp wr n Pt Sti Mid)
    (hcell : ∀ y ∈ scope.names, y.2 ≠ .cell) (hkind : scope.kind = .function) (hxk : scope.names.lookup xk = some .local) (hxv : scope.names.lookup xv = some .local) (hsz : n ≤ sizeLine)
    (S : St O V env.locals m cl cv M s₁.heap) (k : Sub s₁.heap.get? s.heap.get?) (hfr : ∀ b ∈ wr, s₁.heap.get? b = none) (hnd : wr.Nodup) (hst : Sti 0 s.heap) (hlive : ∀ i h, Sti i h → ∀ b ∈ wr, ∃ o, h.get? b = some o)
    (hmid : ∀ i T h, Mid i T h → ∀ b ∈ wr, ∃ o, h.get? b = some o) (hPt : ∀ i vals, Pt i vals → ∃ v0 v1, vals = #[v0, v1])
    (hfp : ∀ b ∈ fp, b ∈ wr ∨ (∃ o, O b = some o) ∨ ∃ o, V b = some o) (J : InvC) (h0 : J 0 V [])
    (turn : ∀ i v0 v1 C D V' ys (mC : Str → Option Value) hb h tk, i < n → Pt i #[v0, v1] → Sub V V' → J i V' ys → St O V' C (fun y => if y = xv then some v1 else if y = xk then some v0 else mC y) cl cv (cM env m D ys hb wr M) h →
      wpAny (model prog w) A (eval elt (compEnvC scope cl' C env)) (fun y => Elt O V' C cl cv (cM env m D ys hb wr M) (fun V'' => J (i + 1) V'' (ys ++ [y])) s) (fun _ _ => False) { s with heap := h, toks := tk })
    (done : ∀ D C V' ys (mC : Str → Option Value) h tk, Sub V V' → J n V' ys → St O V' C mC cl cv ((env.locals, PN m) :: (D, PL ys) :: M) h → RR (.ref D) C (.ok .next) { s with heap := h, toks := tk }) :
    wpAny (model prog w) A (newList []) (fun acc s₃ => wpAny (model prog w) A (newFunctionEnv scope env.globals cl' [] env.qual none .none (some env)) (fun cenv s₄ =>
      codeAny (model prog w) A (.compStart (.ListComp elt [⟨.Tuple [.Name xk pk, .Name xv pv] x1 pt, iter, [], 0⟩] scope pos) 0 (.ref I) acc { cenv with scope := relabel scope env }) (RR acc cenv.locals) s₄) E s₃) E s := by
  refine comp_frame (s₁ := s₁) (s := s) (Q := fun acc cenv s₄ => codeAny (model prog w) A (.compStart (.ListComp elt [⟨.Tuple [.Name xk pk, .Name xv pv] x1 pt, iter, [], 0⟩] scope pos) 0 (.ref I) acc cenv) (RR acc cenv.locals) s₄) hcell hkind S k hfr hnd (hlive 0 _ hst) fun D C h₁ tk hk₁ S₁ => ?_
  have hst₁ : Sti 0 h₁ := W.frame _ _ _ hst fun b _ o e => hk₁ b o e
  have loop : codeAny (model prog w) A (.compLoop (.ListComp elt [⟨.Tuple [.Name xk pk, .Name xv pv] x1 pt, iter, [], 0⟩] scope pos) 0 (.ref I) (.ref D) (compEnvC scope cl' C env)) (RR (.ref D) C) { s with heap := h₁, toks := tk } :=
    compLoop_pair9 (s := { s with heap := h₁, toks := tk }) hh W (lookup_relabel_local hxk) (lookup_relabel_local hxv) (by simp [compEnvC, relabel, hkind]) rfl hsz hnd hst₁ hlive hmid hPt hfp S₁ J h0
      (fun i v0 v1 V' ys mC hb h tk hi hp hv hj S => turn i v0 v1 C D V' ys mC hb h tk hi hp hv hj S) fun V' ys mC h tk hv hj S => done D C V' ys mC h tk hv hj S
  exact codeAny_compStart_list loop (W.self 0 _ _ _ hst₁ loop)
end
section
variable {prog : Program} {w : World} {A : Around} {s s₁ : Shared} {E : Value → Shared → Prop} {env : Env} {O V : View} {L : Addr} {m : Str → Option Value} {cl cl' : List (Str × Addr)} {cv : Str → Option Value} {M : Led}
  {n : Nat} {Pt : Nat → Value → Value → Prop} {Q : Value → Shared → Prop}
theorem lcE_srcP {elt iter : Expr} {xk xv : Str} {pk pv pt : Pos} {x1 : Nat} {scope : Scope} {pos : Pos} {I : Addr} {fp wr : List Addr} {Pa : Nat → Array Value → Prop} {Sti : Nat → Heap → Prop} {Mid : Nat → Addr → Heap → Prop}
    (hh : A.handled = none) (X : IsSrcP prog w A O V n Pt s₁ s I fp wr Pa Sti Mid) (S : St O V env.locals m cl cv M s₁.heap)
    (hcell : ∀ y ∈ scope.names, y.2 ≠ .cell) (hkind : scope.kind = .function) (hxk : scope.names.lookup xk = some .local) (hxv : scope.names.lookup xv = some .local) (hsz : n ≤ sizeLine) (J : InvC) (h0 : J 0 V [])
    (turn : ∀ i v0 v1 C D V' ys (mC : Str → Option Value) hb h tk, i < n → Pt i v0 v1 → Sub V V' → J i V' ys → St O V' C (fun y => if y = xv then some v1 else if y = xk then some v0 else mC y) cl cv (cM env m D ys hb wr M) h →
      wpAny (model prog w) A (eval elt (compEnvC scope cl' C env)) (fun y => Elt O V' C cl cv (cM env m D ys hb wr M) (fun V'' => J (i + 1) V'' (ys ++ [y])) s) (fun _ _ => False) { s with heap := h, toks := tk })
    (done : ∀ D V' ys h tk, Sub V V' → J n V' ys → St O V' env.locals m cl cv ((D, PL ys) :: M) h → Q (.ref D) { s with heap := h, toks := tk }) :
    LcE prog w A env scope cl' (.ListComp elt [⟨.Tuple [.Name xk pk, .Name xv pv] x1 pt, iter, [], 0⟩] scope pos) E Q (.ref I) s :=
  lc_pair9 (s := s) hh X.W hcell hkind hxk hxv hsz S X.k X.fr X.nd X.st X.live X.mid (fun i vals p => let ⟨v0, v1, e, _⟩ := X.two i vals p; ⟨v0, v1, e⟩) X.fp J h0
    (fun i v0 v1 C D V' ys mC hb h tk hi hp => turn i v0 v1 C D V' ys mC hb h tk hi (by obtain ⟨a, b, e, q⟩ := X.two i _ hp; cases e; exact q))
    fun D C V' ys mC h tk hv hj S => post_E S fun h' S => done D V' ys h' tk hv hj S
theorem push_ne {h : Heap} {o : Obj} {b : Nat} (hb : b ≠ h.objs.size) : (h.push o).get? b = h.get? b := by
  obtain ⟨objs, l⟩ := h
  show Heap.get? ⟨objs.push _, l⟩ b = Heap.get? ⟨objs, l⟩ b
  have hb' : b ≠ objs.size := hb
  unfold Heap.get?
  rw [Array.getElem?_push, if_neg hb']
theorem push_freed {h : Heap} : (h.push { cls := .type "list", data := .freed }).get? h.objs.size = none := by
  obtain ⟨objs, l⟩ := h
  show Heap.get? ⟨objs.push _, l⟩ objs.size = none
  unfold Heap.get?
  simp
/-- two lists side by side -/
theorem src_zip {l1 l2 : Addr} {xs ys : List Value} (hh : A.handled = none) (S : St O V L m cl cv M s.heap) (h1 : Old O V l1 (PI xs)) (h2 : Old O V l2 (PI ys))
    (h : ∀ z V' s₁ h' fp wr Pa Sti Mid, Sub V V' → St O V' L m cl cv M s₁.heap → IsSrcP prog w A O V' (min xs.length ys.length) (fun i a b => xs[i]? = some a ∧ ys[i]? = some b) s₁ { s with heap := h' } z fp wr Pa Sti Mid → Q (.ref z) { s with heap := h' }) :
    wpAny (model prog w) A (call (.type "zip") [.ref l1, .ref l2]) Q E s := by
  have a1 := (h1.at S).list
  have a2 := (h2.at S).list
  have lt1 : l1 < s.heap.objs.size := by obtain ⟨o, e, _⟩ := a1; exact Heap.lt_size e
  have lt2 : l2 < s.heap.objs.size := by obtain ⟨o, e, _⟩ := a2; exact Heap.lt_size e
  refine call_zip_2 a1 a2 fun h' hz hTI hTO hi1 hi2 hsz hk => ?_
  generalize hN : s.heap.objs.size = N at *
  let fr : Obj := { cls := .type "list", data := .freed }
  let H1 : Heap := ((s.heap.push fr).push fr).push { cls := .type "tuple", data := .seq #[.ref N, .ref (N + 1)] }
  have z1 : (s.heap.push fr).objs.size = N + 1 := by rw [Heap.size_push, hN]
  have z2 : ((s.heap.push fr).push fr).objs.size = N + 2 := by rw [Heap.size_push, z1]
  have gTI : H1.get? (N + 2) = some { cls := .type "tuple", data := .seq #[.ref N, .ref (N + 1)] } := by
    have := Heap.get?_push_size ((s.heap.push fr).push fr) (o := { cls := .type "tuple", data := .seq #[.ref N, .ref (N + 1)] }) rfl
    rw [z2] at this; exact this
  have up : Sub s.heap.get? H1.get? := fun b o e => Heap.get?_push_of_some _ (Heap.get?_push_of_some _ (Heap.get?_push_of_some _ e))
  have n0 : s.heap.get? N = none := hN ▸ size_none
  have down : ∀ b o, H1.get? b = some o → s.heap.get? b = some o ∨ (b = N + 2 ∧ o = { cls := .type "tuple", data := .seq #[.ref N, .ref (N + 1)] }) := by
    intro b o e
    by_cases q : b = N + 2
    · rw [q, gTI] at e; cases e; exact .inr ⟨q, rfl⟩
    · rw [push_ne (by rw [z2]; exact q)] at e
      by_cases q1 : b = N + 1
      · rw [q1, ← z1, push_freed] at e; cases e
      · rw [push_ne (by rw [z1]; exact q1)] at e
        by_cases q2 : b = N
        · rw [q2, ← hN, push_freed] at e; cases e
        · rw [push_ne (by rw [hN]; exact q2)] at e
          exact .inl e
  have kk : Sub H1.get? h'.get? := fun b o e => by
    rcases down b o e with q | ⟨rfl, rfl⟩
    · exact hk b o q
    · exact hTI
  have f2 : s.heap.get? (N + 2) = none := by
    cases q : s.heap.get? (N + 2) with
    | none => rfl
    | some o => have := Heap.lt_size q; rw [hN] at this; exact absurd this (Nat.not_lt.mpr (Nat.le_add_right N 2))
  have F := S.freshOff f2
  have hF : Sub (fun b => if b = N + 2 then some { cls := .type "tuple", data := .seq #[.ref N, .ref (N + 1)] } else none) H1.get? := fun b o q => by
    by_cases z : b = N + 2
    · simp only [z, if_true] at q; cases q; rw [z]; exact gTI
    · simp only [if_neg z] at q; cases q
  have SV := (S.grown up).take hF (fun b o q => by
      by_cases z : b = N + 2
      · rw [z]; exact F.1
      · simp only [if_neg z] at q; cases q) (if_neg (Ne.symm F.2.2.1)) (fun p hp => if_neg fun (z : p.2 = N + 2) => F.2.2.2.1 (z ▸ List.mem_map_of_mem (f := (·.2)) hp)) (fun p hp => if_neg fun (z : p.1 = N + 2) => F.2.2.2.2 (z ▸ List.mem_map_of_mem (f := (·.1)) hp))
  have none1 : ∀ b, b = N ∨ b = N + 1 ∨ b = N + 3 ∨ b = N + 4 → H1.get? b = none := by
    intro b hb
    cases q : H1.get? b with
    | none => rfl
    | some o =>
      rcases down b o q with q | ⟨q, _⟩
      · have lt : (b : Nat) < N := hN ▸ Heap.lt_size q
        rcases hb with e | e | e | e <;> (rw [e] at lt; exact absurd lt (by simp))
      · rcases hb with e | e | e | e <;> (rw [e] at q; simp at q)
  have D : ZipApart (N + 4) (N + 2) (N + 3) N (N + 1) l1 l2 := by
    have l1' : (l1 : Nat) < N := lt1
    have l2' : (l2 : Nat) < N := lt2
    constructor <;> (intro e; first | (have e' : (_ : Nat) = (_ : Nat) := e; omega) | (rw [e] at lt1; exact absurd lt1 (Nat.not_lt.mpr (Nat.le_add_right N _))) | (rw [e] at lt1; exact absurd lt1 (Nat.lt_irrefl _)) | (rw [e] at lt2; exact absurd lt2 (Nat.not_lt.mpr (Nat.le_add_right N _))) | (rw [e] at lt2; exact absurd lt2 (Nat.lt_irrefl _)))
  have W := WalksT.zip2 (prog := prog) (w := w) hh (N + 4) (N + 2) (N + 3) N (N + 1) l1 l2 D xs.toArray ys.toArray
  refine h (N + 4) _ { s with heap := H1 } h' _ _ _ _ _ (sub_joinV _ _) SV ⟨W, kk, ?_, ?_, ?_, ?_, ?_, ?_, ?_⟩
  · intro b hb; exact none1 b (by simp at hb; rcases hb with e | e | e | e <;> simp [e])
  · simp
  · exact ⟨hz, hTI, ⟨_, _, hTO⟩, hi1, hi2, a1.at fun o e => hk _ o e, a2.at fun o e => hk _ o e⟩
  · rintro i h ⟨q1, q2, ⟨_, _, q3⟩, ⟨_, q4, _⟩, ⟨_, q5, _⟩, _⟩ b hb
    simp at hb
    rcases hb with rfl | rfl | rfl | rfl
    · exact ⟨_, q1⟩
    · exact ⟨_, q3⟩
    · exact ⟨_, q4⟩
    · exact ⟨_, q5⟩
  · rintro i T h ⟨q1, q2, ⟨_, _, q3⟩, ⟨_, q4, _⟩, ⟨_, q5, _⟩, _⟩ b hb
    simp at hb
    rcases hb with rfl | rfl | rfl | rfl
    · exact ⟨_, q1⟩
    · exact ⟨_, q3⟩
    · exact ⟨_, q4⟩
    · exact ⟨_, q5⟩
  · intro b hb
    simp at hb
    rcases hb with rfl | rfl | rfl | rfl | rfl | rfl | rfl
    · exact .inl (by simp)
    · right; right
      unfold joinV
      rw [F.2.1]
      exact ⟨_, if_pos rfl⟩
    · exact .inl (by simp)
    · exact .inl (by simp)
    · exact .inl (by simp)
    · right; exact h1.live.imp id fun ⟨o, q⟩ => ⟨o, sub_joinV _ _ _ _ q⟩
    · right; exact h2.live.imp id fun ⟨o, q⟩ => ⟨o, sub_joinV _ _ _ _ q⟩
  · rintro i vals ⟨x, y, p, q, rfl⟩
    exact ⟨x, y, rfl, by simpa using p, by simpa using q⟩
end
-- Int9
section
variable {prog : Program} {w : World} {A : Around} {E : Value → Shared → Prop} {s : Shared} {l : Addr} {Q : Value → Shared → Prop}
theorem itemLast9 {value slice : Expr} {ns : List Int} {u : Tok} (hl : At s.heap.get? l (LI ns)) (hn : ns ≠ []) (h : ∀ t, Q (.int (ns.getLastD 0) t) s)
    (hs : subscripted slice false (.ref l) (.int (-1) u) = operate [.ref l, .int (-1) u] (getItem (.ref l) (.int (-1) u)) := by with_unfolding_all rfl)
    (ht : ∀ r, letTemporaryGo value (.ref l) r = pure () := by intro _; with_unfolding_all rfl) : wpAny (model prog w) A (subscriptTail value slice (.ref l) (.int (-1) u)) Q E s := by
  obtain ⟨vs, p, q⟩ := LI.list hl
  have hlen := q.length
  have hpos : 0 < ns.length := List.length_pos_iff.mpr hn
  have hx : ns[ns.length - 1]? = some (ns.getLastD 0) := by
    rw [List.getLastD_eq_getLast?, List.getLast?_eq_getElem?]
    rw [List.getElem?_eq_getElem (by omega)]; rfl
  obtain ⟨t, e⟩ := IntsAre.at9 q hx
  refine subscriptTail_builtin p.typeIs slot_list_getitem.lookup (wpAny_getItem_list_neg p (by omega) (by rw [List.size_toArray]; omega) (by omega) (x := .int (ns.getLastD 0) t) ?_ (h t)) hs ht
  have e2 : ((-1 : Int) + (vs.toArray.size : Int)).toNat = ns.length - 1 := by rw [List.size_toArray]; omega
  rw [e2]
  simpa using e
theorem lenI9 {ns : List Int} (hl : At s.heap.get? l (LI ns)) (hf : ns.length ≤ 100000) (h : ∀ t k, Q (.int (ns.length : Int) t) { s with toks := k }) : wpAny (model prog w) A (call (.builtin "len") [.ref l]) Q E s := by
  obtain ⟨o, e, vs, p, q⟩ := hl
  exact lenL9 ⟨o, e, p⟩ q.length hf h
theorem neI9 {a b : Addr} {xs ys : List Int} (ha : At s.heap.get? a (LI xs)) (hb : At s.heap.get? b (LI ys)) (hu : A.units + 64 < cLine) (h : Q (.bool (!decide (xs = ys))) s) : wpAny (model prog w) A (compareOp .NotEq (.ref a) (.ref b)) Q E s := by
  obtain ⟨vs, p, q⟩ := LI.list ha
  obtain ⟨us, p', q'⟩ := LI.list hb
  exact ke_ne_ints p p' q q' hu h
theorem eqI9 {a b : Addr} {xs ys : List Int} (ha : At s.heap.get? a (LI xs)) (hb : At s.heap.get? b (LI ys)) (hu : A.units + 64 < cLine) (h : Q (.bool (decide (xs = ys))) s) : wpAny (model prog w) A (compareOp .Eq (.ref a) (.ref b)) Q E s := by
  obtain ⟨vs, p, q⟩ := LI.list ha
  obtain ⟨us, p', q'⟩ := LI.list hb
  exact ke_eq_ints p p' q q' hu h
theorem PL.nil {o : Obj} (h : PL [] o) : LI [] o := ⟨[], h.pi, .nil⟩
theorem PL.li {vs : List Value} {ns : List Int} {o : Obj} (h : PL vs o) (i : IntsAre vs ns) : LI ns o := ⟨vs, h.pi, i⟩
end
theorem pick_init {vs : List Value} {ns : List Int} (hi : IntsAre vs ns) (hn : ns ≠ []) : IntsAre (slicePick vs.toArray none (some (-1)) none).toList ns.dropLast := by
  have hl := hi.length
  have hpos := List.length_pos_iff.mpr hn
  have e : slicePick vs.toArray none (some (-1)) none = slicePick vs.toArray (some 0) (some ((ns.length : Int) - 1)) none := by
    have e1 : sliceBounds none (some (-1)) none vs.toArray.size = sliceBounds (some 0) (some ((ns.length : Int) - 1)) none vs.toArray.size := by
      unfold sliceBounds
      rw [List.size_toArray, hl]
      have h1 : ¬ ((ns.length : Int) - 1 < 0) := by omega
      have h2 : max 0 (min ((-1 : Int) + (ns.length : Int)) (ns.length : Int)) = (ns.length : Int) - 1 := by omega
      have h3 : max 0 (min ((ns.length : Int) - 1) (ns.length : Int)) = (ns.length : Int) - 1 := by omega
      have h4 : max 0 (min (0 : Int) (ns.length : Int)) = 0 := by omega
      simp [h1, h2, h3, h4]
    unfold slicePick
    rw [e1]
  rw [e]
  have := slice_ints hi (x := 0) (y := (ns.length : Int) - 1) (by omega) (by omega) (by omega)
  have e2 : ((ns.length : Int) - 1 - 0).toNat = ns.length - 1 := by omega
  rw [e2] at this
  simpa [List.dropLast_eq_take] using this
theorem okI_last {l : List Int} (h : (l.all fun x => decide (x.natAbs < 1000000)) = true) : (l.getLastD 0).natAbs < 1000000 := by
  rw [List.getLastD_eq_getLast?]
  cases e : l.getLast? with
  | none => decide
  | some x => exact of_decide_eq_true (List.all_eq_true.mp h x (List.mem_of_getLast? e))
theorem okI_get {l : List Int} (h : (l.all fun x => decide (x.natAbs < 1000000)) = true) (i : Nat) : (l.getD i 0).natAbs < 1000000 := by
  rw [List.getD_eq_getElem?_getD]
  cases e : l[i]? with
  | none => decide
  | some x => exact of_decide_eq_true (List.all_eq_true.mp h x (List.mem_of_getElem? e))
local macro_rules | `(tactic| walk_at "binaryOp Pow int int") => `(tactic| (refine' PyProof.Rows.pow_int_small ?a ?b ?c ?_; (case a => first | assumption | omega); (case b => first | assumption | omega); (case c => first | assumption | omega)))
-- Fn7
section
variable {prog : Program} {w : World} {mean : ExcName → Option Value} {mg mb : Str → Option Value} {base : Heap} {A : Around} {s : Shared}
set_option maxHeartbeats 4000000
noncomputable def okI (l : List Int) : Bool := l.all fun x => x.natAbs < 1000000
noncomputable def stripN : Nat → List Int → List Int
  | 0, l => l
  | k + 1, l => if l.getLastD 1 = 0 then stripN k l.dropLast else l
noncomputable def stepR (rest low : List Int) (p turn : Int) : List Int :=
  (List.range rest.length).map fun i => if rest.length - low.length ≤ i then (rest.getD i 0 - (rest.getLastD 0 * turn) * low.getD (i - (rest.length - low.length)) 0).fmod p else rest.getD i 0
noncomputable def restF : Nat → List Int → List Int → Int → Int → Option (List Int)
  | 0, _, _, _, _ => none
  | k + 1, rest, low, p, turn => if rest.length < low.length then some rest else if okI ((rest.getLastD 0 * turn) :: rest) = true then restF k (stripN rest.length (stepR rest low p turn)) low p turn else none
theorem stepR_length (rest low : List Int) (p turn : Int) : (stepR rest low p turn).length = rest.length := by simp [stepR]
theorem rest_c {a b : Addr} {top low r : List Int} {p : Nat} {t : Tok} (C : Cx w mean mg mb base) (hb0 : Sub base.get? s.heap.get?) (R : Room A 1) (ha : At s.heap.get? a (LI top)) (hb : At s.heap.get? b (LI low)) (hl : low ≠ []) (hok : okI low = true) (hlz : low.length ≤ 100) (hp : 2 ≤ p) (hp2 : p ≤ 10) (hz : top.length ≤ 100) (hr : restF 200 top low p ((low.getLastD 0) ^ (p - 2)) = some r) :
    Does prog w A (call (.ref 168) [.ref a, .ref b, .int p t]) (fun V v => ∃ d, v = .ref d ∧ ((d = a ∧ r = top) ∨ At V d (LI r))) s := by
  refine' enter (binds := [("top", .ref a), ("low", .ref b), ("prime", .int p t)]) (m := fun z => if z = "top" then some (.ref a) else none) (cv := fun z => if z = "prime" then some (.int p t) else if z = "low" then some (.ref b) else none) C hb0 R ?ho ?hcd ?hbind ?hkind ?hnd ?hm ?hc ?h ?c1 ?c2 ?c3
  walk_at "my_enter"
  intro L h₁ tk S
  have hll := okI_last hok
  have he : ((p : Int) - 2).toNat = p - 2 := by omega
  walk_at "go"
  rename St _ _ _ _ _ _ _ _ => S
  refine itemLast9 (S.getO hb) hl ?_
  intro _
  walk_at "go"
  rw [he] at *
  rename St _ _ _ _ _ _ _ _ => S
  refine while_st S (fun n V m cv M => ∃ cur a', cv "rest" = some (.ref a') ∧ ((a' = a ∧ cur = top) ∨ At V a' (LI cur)) ∧ cv "low" = some (.ref b) ∧ cv "prime" = some (.int p t) ∧ (∃ t, m "turn" = some (.int ((low.getLastD 0) ^ (p - 2)) t)) ∧ restF n cur low p ((low.getLastD 0) ^ (p - 2)) = some r ∧ cur.length ≤ 100) 200 ⟨top, a, rfl, .inl ⟨rfl, rfl⟩, rfl, rfl, ⟨_, rfl⟩, hr, hz⟩ ?turn
  rintro n V' m' cv' M' h tk hV ⟨cur, a', h1, h2w, h3, h4, ⟨t5, h5⟩, h6, h7⟩ S
  have h2 : Old s.heap.get? V' a' (LI cur) := by
    rcases h2w with ⟨e1, e2⟩ | q
    · rw [e1, e2]; exact .inl ha
    · exact .inr q
  cases n with
  | zero => cases h6
  | succ n =>
  walk_at "go"
  rename St _ _ _ _ _ _ _ _ => S
  refine lenI9 (h2.at S) (by omega) ?_
  intro _ _
  walk_at "go"
  rename St _ _ _ _ _ _ _ _ => S
  refine lenI9 (S.getO hb) (by omega) ?_
  intro _ _
  walk_at "go"
  · rename _ ≤ _ => hge
    have hcl : ¬ cur.length < low.length := by omega
    have hcn : cur ≠ [] := by
      intro e; rw [e] at hcl
      exact hcl (List.length_pos_iff.mpr hl)
    unfold restF at h6
    rw [if_neg hcl] at h6
    by_cases hoc : okI ((cur.getLastD 0 * (low.getLastD 0) ^ (p - 2)) :: cur) = true
    case neg => rw [if_neg hoc] at h6; cases h6
    rw [if_pos hoc] at h6
    have hfac : (cur.getLastD 0 * (low.getLastD 0) ^ (p - 2)).natAbs < 1000000 := of_decide_eq_true (List.all_eq_true.mp hoc _ (.head _))
    have hoc' : okI cur = true := List.all_eq_true.mpr fun x hx => List.all_eq_true.mp hoc x (.tail _ hx)
    have hcl2 := okI_last hoc'
    walk_at "go"
    rename St _ _ _ _ _ _ _ _ => S
    refine itemLast9 (h2.at S) hcn ?_
    intro _
    walk_at "go"
    rename St _ _ _ _ _ _ _ _ => S
    refine lenI9 (h2.at S) (by omega) ?_
    intro _ _
    walk_at "go"
    rename St _ _ _ _ _ _ _ _ => S
    refine lenI9 (S.getO hb) (by omega) ?_
    intro _ _
    walk_at "go"
    rename St _ _ _ _ _ _ _ _ => S
    refine lenI9 (h2.at S) (by omega) ?_
    intro _ _
    walk_at "go"
    rename St _ _ _ _ _ _ _ _ => S
    rename IsRange _ _ _ _ _ _ _ _ => hr9
    have hsl := stepR_length cur low p ((low.getLastD 0) ^ (p - 2))
    refine src_rng R.h S hr9 (by omega) fun I fp wr Sti h X => ?_
    refine lcE_src X S (by decide) rfl rfl (by rw [sizeLine_eq]; omega) (fun i V ys => IntsAre ys ((stepR cur low p ((low.getLastD 0) ^ (p - 2))).take i)) .nil ?turn2 ?done2
    case turn2 =>
      rintro i v C1 D V2 ys mC hb9 h tk hi ⟨ti, rfl⟩ hV2 hm S
      clear X
      have hg : (stepR cur low p ((low.getLastD 0) ^ (p - 2)))[i]? = some (if cur.length - low.length ≤ i then (cur.getD i 0 - (cur.getLastD 0 * (low.getLastD 0) ^ (p - 2)) * low.getD (i - (cur.length - low.length)) 0).fmod p else cur.getD i 0) := by
        unfold stepR
        rw [List.getElem?_map, List.getElem?_range hi]; rfl
      have hcx : cur[((i : Nat) : Int).toNat]? = some (cur.getD i 0) := by simp [hi, List.getD_eq_getElem?_getD]
      by_cases hgi : cur.length - low.length ≤ i
      · rw [if_pos hgi] at hg
        walk_at "go"
        · rename St _ _ _ _ _ _ _ _ => S
          refine itemI9 ((h2.sub hV2).at S) (by omega) (by omega) hcx ?_
          intro _
          walk_at "go"
          rename St _ _ _ _ _ _ _ _ => S
          have hni : ((i : Int) - ((cur.length : Int) - (low.length : Int))).toNat = i - (cur.length - low.length) := by omega
          have hlx : low[((i : Int) - ((cur.length : Int) - (low.length : Int))).toNat]? = some (low.getD (i - (cur.length - low.length)) 0) := by
            rw [hni, List.getD_eq_getElem?_getD, List.getElem?_eq_getElem (by omega)]; rfl
          refine itemI9 (S.getO hb) (by omega) (by omega) hlx ?_
          intro _
          walk_at "go"
          rename St _ _ _ _ _ _ _ _ => S
          exact Elt.go S (Sub.refl _) (by rw [List.take_add_one, hg]; exact IntsAre.snoc hm _ _)
        · omega
      · rw [if_neg hgi] at hg
        walk_at "go"
        · omega
        · rename St _ _ _ _ _ _ _ _ => S
          refine itemI9 ((h2.sub hV2).at S) (by omega) (by omega) hcx ?_
          intro _
          walk_at "go"
          rename St _ _ _ _ _ _ _ _ => S
          exact Elt.go S (Sub.refl _) (by rw [List.take_add_one, hg]; exact IntsAre.snoc hm _ _)
    rintro D V2 ys h tk hV2 hm S
    clear X
    rw [List.take_of_length_le (by omega)] at hm
    walk_at "go"
    rename St _ _ _ _ _ _ _ _ => S
    obtain ⟨V3, S, hV3, hA⟩ := S.freeze (pre := []) rfl
    refine while_st S (fun n' V m cv M => ∃ c2 a2, cv "rest" = some (.ref a2) ∧ At V a2 (LI c2) ∧ cv "low" = some (.ref b) ∧ cv "prime" = some (.int p t) ∧ (∃ t, m "turn" = some (.int ((low.getLastD 0) ^ (p - 2)) t)) ∧ n' = c2.length ∧ c2.length ≤ 100 ∧ stripN c2.length c2 = stripN cur.length (stepR cur low p ((low.getLastD 0) ^ (p - 2)))) cur.length ⟨_, _, rfl, (hA.mono fun _ x => ⟨_, x.pi, hm⟩), h3, h4, ⟨_, h5⟩, hsl.symm, by omega, by rw [hsl]⟩ ?turn3
    rintro n' V4 m4 cv4 M4 h tk hV4 ⟨c2, a2, g1, g2, g3, g4, ⟨t6, g5⟩, rfl, g6, g7⟩ S
    have hu : (A.units + 3) + 64 < cLine := by have := R.u; omega
    walk_at "go"
    rename St _ _ _ _ _ _ _ _ => S
    refine neI9 (S.getV g2) ((S.getM (.head _)).mono fun _ x => PL.nil x) hu ?_
    walk_at "go"
    · rename St _ _ _ _ _ _ _ _ => S
      rename decide (c2 = []) = true => hc2
      have hc2 := of_decide_eq_true hc2
      subst hc2
      refine TurnedW.go S.tail (hV2.trans (hV3.trans hV4)) (Nat.lt_succ_self n) ⟨[], a2, g1, .inr g2, g3, g4, ⟨t6, g5⟩, ?_, by decide⟩
      rw [← h6, ← g7]; rfl
    · rename St _ _ _ _ _ _ _ _ => S
      rename decide (c2 = []) = false => hc2
      have hc2 := of_decide_eq_false hc2
      obtain ⟨n2, hn2⟩ : ∃ n2, c2.length = n2 + 1 := ⟨c2.length - 1, by have := List.length_pos_iff.mpr hc2; omega⟩
      have hd1 : c2.getLastD 1 = c2.getLastD 0 := by
        rw [List.getLastD_eq_getLast?, List.getLastD_eq_getLast?]
        cases e : c2.getLast? with
        | none => exact absurd (List.getLast?_eq_none_iff.mp e) hc2
        | some x => rfl
      have hg7 : (if c2.getLastD 0 = 0 then stripN n2 c2.dropLast else c2) = stripN cur.length (stepR cur low p ((low.getLastD 0) ^ (p - 2))) := by
        rw [← g7, hn2]
        conv => rhs; unfold stripN
        rw [hd1]
      refine itemLast9 (S.getV g2) hc2 ?_
      intro _
      have hz2 : ∀ vs : List Value, IntsAre vs c2 → vs.length ≤ 100000 := fun vs h => by have := h.length; omega
      walk_at "go"
      · rename St _ _ _ _ _ _ _ _ => S
        rename c2.getLastD 0 = 0 => hl0
        rw [if_pos hl0] at hg7
        obtain ⟨o, e, vs, q, q2⟩ := id g2
        have q1 : Old s.heap.get? V4 a2 (PI vs) := .inr ⟨o, e, q⟩
        refine sl_list S (q1.at S) .none (.int _ _) (hz2 vs q2) ?_
        intro d9 h9 S
        have hpi := pick_init q2 hc2
        walk_at "go"
        rename St _ _ _ _ _ _ _ _ => S
        obtain ⟨V5, S, hV5, hA5⟩ := S.freeze (pre := []) rfl
        refine TurnedW.go S.tail hV5 (by rw [hn2]; exact Nat.lt_succ_self _) ⟨c2.dropLast, _, rfl, (hA5.mono fun _ x => PL.li x hpi), g3, g4, ⟨t6, g5⟩, (by rw [List.length_dropLast, hn2]; rfl), by rw [List.length_dropLast]; omega, ?_⟩
        rw [← hg7, List.length_dropLast, hn2]; rfl
      · rename St _ _ _ _ _ _ _ _ => S
        rename c2.getLastD 0 ≠ 0 => hl0
        rw [if_neg hl0] at hg7
        refine TurnedW.go S.tail (hV2.trans (hV3.trans hV4)) (Nat.lt_succ_self n) ⟨c2, a2, g1, .inr g2, g3, g4, ⟨t6, g5⟩, ?_, g6⟩
        rw [← h6, ← hg7]
  · rename St _ _ _ _ _ _ _ _ => S
    have hcl : cur.length < low.length := by omega
    unfold restF at h6
    rw [if_pos hcl] at h6
    cases h6
    exact h2w.imp id fun q => q.sub (S.new (Sub.refl _))
end
-- Fn8
section
variable {prog : Program} {w : World} {mean : ExcName → Option Value} {mg mb : Str → Option Value} {base : Heap} {A : Around} {s : Shared}
set_option maxHeartbeats 4000000
noncomputable def commonF : Nat → List Int → List Int → Nat → Option Nat
  | 0, _, _, _ => none
  | k + 1, one, other, p => if other = [] then some one.length else
      if okI other = true ∧ one.length ≤ 100 ∧ other.length ≤ 100 then
        match restF 200 one other p ((other.getLastD 0) ^ (p - 2)) with
        | some r => commonF k other r p
        | none => none
      else none
theorem common_c {a b : Addr} {one other : List Int} {p n : Nat} {t : Tok} (C : Cx w mean mg mb base) (hb0 : Sub base.get? s.heap.get?) (R : Room A 2) (ha : At s.heap.get? a (LI one)) (hb : At s.heap.get? b (LI other)) (hp : 2 ≤ p) (hp2 : p ≤ 10) (hz : one.length ≤ 100) (hr : commonF 200 one other p = some n) :
    Does prog w A (call (.ref 175) [.ref a, .ref b, .int p t]) (fun _ v => isI v ((n : Int) - 1)) s := by
  refine' enter (binds := [("one", .ref a), ("other", .ref b), ("prime", .int p t)]) (m := fun z => if z = "prime" then some (.int p t) else if z = "other" then some (.ref b) else if z = "one" then some (.ref a) else none) (cv := fun _ => none) C hb0 R ?ho ?hcd ?hbind ?hkind ?hnd ?hm ?hc ?h ?c1 ?c2 ?c3
  walk_at "my_enter"
  intro L h₁ tk S
  have hu : (A.units + 3) + 64 < cLine := by have := R.u; omega
  walk_at "go"
  rename St _ _ _ _ _ _ _ _ => S
  refine while_st S (fun k V m cv M => ∃ c1 c2 a1 a2, m "one" = some (.ref a1) ∧ m "other" = some (.ref a2) ∧ Old s.heap.get? V a1 (LI c1) ∧ Old s.heap.get? V a2 (LI c2) ∧ m "prime" = some (.int p t) ∧ commonF k c1 c2 p = some n ∧ c1.length ≤ 100) 200 ⟨one, other, a, b, rfl, rfl, .inl ha, .inl hb, rfl, hr, hz⟩ ?turn
  rintro k V' m' cv' M' h tk hV ⟨c1, c2, a1, a2, h1, h2, h3, h4, h5, h6, h7⟩ S
  cases k with
  | zero => cases h6
  | succ k =>
  unfold commonF at h6
  walk_at "go"
  rename St _ _ _ _ _ _ _ _ => S
  refine neI9 (h4.at S) ((S.getM (.head _)).mono fun _ x => PL.nil x) hu ?_
  walk_at "go"
  · rename St _ _ _ _ _ _ _ _ => S
    rename decide (c2 = []) = true => hc2
    rw [if_pos (of_decide_eq_true hc2)] at h6
    cases h6
    refine lenI9 (h3.at S) (by omega) ?_
    intro _ _
    walk_at "go"
    exact ⟨_, rfl⟩
  · rename St _ _ _ _ _ _ _ _ => S
    rename decide (c2 = []) = false => hc2
    have hc2 := of_decide_eq_false hc2
    rw [if_neg hc2] at h6
    by_cases hcond : okI c2 = true ∧ c1.length ≤ 100 ∧ c2.length ≤ 100
    case neg => rw [if_neg hcond] at h6; cases h6
    rw [if_pos hcond] at h6
    cases hrr : restF 200 c1 c2 p ((c2.getLastD 0) ^ (p - 2)) with
    | none => rw [hrr] at h6; cases h6
    | some r =>
    rw [hrr] at h6
    refine use (rest_c C (hb0.trans S.keepO) R.deeper (h3.at S) (h4.at S) hc2 hcond.1 hcond.2.2 hp hp2 hcond.2.1 hrr) S ?_
    rintro v h' tk V2 hV2 S ⟨F, hF, d, rfl, hd⟩
    have hold : Old s.heap.get? V2 d (LI r) := by
      rcases hd with ⟨e1, e2⟩ | q
      · rw [e1, e2]; exact h3.sub hV2
      · exact .inr (q.sub hF)
    walk_at "go"
    rename St _ _ _ _ _ _ _ _ => S
    refine TurnedW.go S.tail (hV2) (Nat.lt_succ_self k) ⟨c2, r, _, _, rfl, rfl, h4.sub hV2, hold, h5, h6, hcond.2.2⟩
end
-- Add9
section
variable {prog : Program} {w : World} {A : Around} {E : Value → Shared → Prop} {s : Shared} {O V : View} {L : Addr} {m : Str → Option Value} {cl : List (Str × Addr)} {cv : Str → Option Value} {M : Led} {l b : Addr} {vs ws : List Value} {x : Int} {u : Tok} {Q : Value → Shared → Prop}
theorem add9L (S : St O V L m cl cv M s.heap) (hl : At s.heap.get? l (PI vs)) (hb : At s.heap.get? b (PI ws)) (hsz : vs.length + ws.length ≤ 100000)
    (h : ∀ d h', St O V L m cl cv ((d, PL (vs ++ ws)) :: M) h' → Q (.ref d) { s with heap := h' }) : wpAny (model prog w) A (binaryOp .Add (.ref l) (.ref b)) Q E s := by
  obtain ⟨⟨cls, dd, data, sl⟩, ho, hc, n, hd⟩ := hl.list
  obtain ⟨⟨cls2, dd2, data2, sl2⟩, ho2, hc2, n2, hd2⟩ := hb.list
  simp only at hc hd hc2 hd2
  subst hc hd hc2 hd2
  have e : vs.toArray ++ ws.toArray = (vs ++ ws).toArray := by simp
  refine concat_meets ⟨_, ho, rfl⟩ ⟨_, ho2, rfl⟩ noFill_list_add seq_list_add PySem.F.slot_list_add PySem.F.entry_list_add (PySem.F.args_list_add_2 _ _) (list_addW l b vs.toArray ws.toArray n n2 dd dd2 sl sl2 (by rw [sizeLine_eq]; simp; omega)) ⟨ho, ho2, ?_⟩
  rw [e]
  exact h _ _ (S.alloc _ ⟨0, rfl⟩)
theorem mul9L (S : St O V L m cl cv M s.heap) (hl : At s.heap.get? l (PI vs)) (hlo : -(2 ^ 63 : Int) ≤ x) (hhi : x < 2 ^ 63) (hsz : vs.length * x.toNat ≤ 256)
    (h : ∀ d h', St O V L m cl cv ((d, PL (List.replicate x.toNat vs).flatten) :: M) h' → Q (.ref d) { s with heap := h' }) : wpAny (model prog w) A (binaryOp .Mult (.ref l) (.int x u)) Q E s := by
  obtain ⟨⟨cls, d, data, sl⟩, ho, hcl, k, hd⟩ := hl.list
  simp only at hcl hd
  subst hcl hd
  have hsz' : vs.toArray.size * x.toNat ≤ 256 := by simpa using hsz
  refine wpAny_binaryOp_repeat_ref (T := "list") (U := "int") (by decide) ⟨_, ho, rfl⟩ (fun s' => typeIs_int s' x u) noFill_list_mul F.fills_int_mul F.slot_int_rmul repeat_list F.slot_int_index.lookup
    (call_meets F.slot_int_rmul (typeIs_int s x u) F.entry_int_rmul (F.args_int_rmul_2 _ _) (lm_int_rmul_list_any x u l vs.toArray k d sl)
      ⟨ho, rfl, ⟨_, ho, rfl⟩, call_meets F.slot_list_mul ⟨_, ho, rfl⟩ F.entry_list_mul (F.args_list_mul_2 _ _)
        (lm_list_mul_any l vs.toArray k d sl x u (by simp [Builtin.List.listFitsIndex]; omega) (by omega) (by simp [Builtin.List.listTooLong, sizeLine]; omega))
        ⟨ho, ?_⟩⟩)
  have N' := S.alloc { cls := Value.type "list", data := Data.seq (List.foldl (fun x1 x2 => x1 ++ x2) #[] (List.replicate (if vs.toArray.isEmpty = true then 0 else x.toNat) vs.toArray)) } (P := PL (List.replicate x.toNat vs).flatten) ⟨0, by rw [listMul_foldl_if]⟩
  exact h _ _ N'
end
section
variable {prog : Program} {w : World} {A : Around} {s s₁ : Shared} {E : Value → Shared → Prop} {env : Env} {O V : View} {L : Addr} {m : Str → Option Value} {cl cl' : List (Str × Addr)} {cv : Str → Option Value} {M : Led}
  {n : Nat} {Pt : Nat → Value → Value → Prop} {Q : Flow → Shared → Prop}
theorem lcA_srcP {elt iter : Expr} {xk xv y : Str} {pk pv pt py : Pos} {x1 : Nat} {scope : Scope} {pos : Pos} {I : Addr} {fp wr : List Addr} {Pa : Nat → Array Value → Prop} {Sti : Nat → Heap → Prop} {Mid : Nat → Addr → Heap → Prop}
    (hh : A.handled = none) (X : IsSrcP prog w A O V n Pt s₁ s I fp wr Pa Sti Mid) (S : St O V env.locals m cl cv M s₁.heap)
    (hcell : ∀ y ∈ scope.names, y.2 ≠ .cell) (hkind : scope.kind = .function) (hxk : scope.names.lookup xk = some .local) (hxv : scope.names.lookup xv = some .local) (hsz : n ≤ sizeLine) (hy : env.kindOf y = some .local) (hk : env.scope.kind = .function) (J : InvC) (h0 : J 0 V [])
    (turn : ∀ i v0 v1 C D V' ys (mC : Str → Option Value) hb h tk, i < n → Pt i v0 v1 → Sub V V' → J i V' ys → St O V' C (fun y => if y = xv then some v1 else if y = xk then some v0 else mC y) cl cv (cM env m D ys hb wr M) h →
      wpAny (model prog w) A (eval elt (compEnvC scope cl' C env)) (fun y => Elt O V' C cl cv (cM env m D ys hb wr M) (fun V'' => J (i + 1) V'' (ys ++ [y])) s) (fun _ _ => False) { s with heap := h, toks := tk })
    (done : ∀ D V' ys h tk, Sub V V' → J n V' ys → St O V' env.locals (fun z => if z = y then some (.ref D) else m z) cl cv ((D, PL ys) :: M) h → Q .next { s with heap := h, toks := tk }) :
    LcA prog w A env scope cl' (.ListComp elt [⟨.Tuple [.Name xk pk, .Name xv pv] x1 pt, iter, [], 0⟩] scope pos) (.Name y py) E Q (.ref I) s :=
  lc_pair9 (s := s) hh X.W hcell hkind hxk hxv hsz S X.k X.fr X.nd X.st X.live X.mid (fun i vals p => let ⟨v0, v1, e, _⟩ := X.two i vals p; ⟨v0, v1, e⟩) X.fp J h0
    (fun i v0 v1 C D V' ys mC hb h tk hi hp => turn i v0 v1 C D V' ys mC hb h tk hi (by obtain ⟨a, b, e, q⟩ := X.two i _ hp; cases e; exact q))
    fun D C V' ys mC h tk hv hj S => post_A S hy hk fun h' tk S => done D V' ys h' tk hv hj S
end
local macro_rules | `(tactic| walk_at "my_lcA") => `(tactic| (with_unfolding_all (refine' exec_lc ?a ?b ?c ?d ?_; (case a => rfl); (case b => rfl); (case c => rfl); (case d => decide))))
local macro_rules | `(tactic| walk_at "mem9") => `(tactic| first | exact .head _ | (refine List.Mem.tail _ ?_; walk_at "mem9"))
local macro_rules | `(tactic| walk_at "at9") => `(tactic| first | exact Old.at (by assumption) (by assumption) | exact Old.at (.inl (by assumption)) (by assumption) | exact Old.at (.inr (by assumption)) (by assumption) | exact St.getM (by assumption) (by walk_at "mem9") | exact St.getM (by assumption) (List.mem_append_right _ (by walk_at "mem9")))
local macro_rules | `(tactic| walk_at "binaryOp Add ref ref") => `(tactic| ((rename St _ _ _ _ _ _ _ _ => S9); (refine' add9L S9 ?a ?b ?z ?_; (case a => walk_at "isL9"); (case b => walk_at "isL9"); (case z => first | assumption | (simp; omega))); clear S9; intro d9 h9 S))
local macro_rules | `(tactic| walk_at "binaryOp Mult ref int") => `(tactic| ((rename St _ _ _ _ _ _ _ _ => S9); (refine' mul9L S9 ?a ?b ?c ?z ?_; (case a => walk_at "isL9"); (case b => omega); (case c => omega); (case z => first | assumption | (simp only [List.length_cons, List.length_nil]; omega))); clear S9; intro d9 h9 S))
-- Fn9
section
variable {prog : Program} {w : World} {mean : ExcName → Option Value} {mg mb : Str → Option Value} {base : Heap} {A : Around} {s : Shared}
set_option maxHeartbeats 4000000
noncomputable def ruleP (taps : List Int) (p : Nat) : List Int := taps.map (fun t => (-t).fmod (p : Int)) ++ [1]
noncomputable def backP (p k : Nat) : List Int := ((p : Int) - 1) :: (List.replicate (k - 1) 0 ++ [1])
noncomputable def widerP (rule : List Int) (p : Nat) : List Int := List.zipWith (fun a b => (a - b).fmod (p : Int)) (0 :: rule) (rule ++ [0])
theorem zeros_ints (n : Nat) (tb : Tok) : IntsAre (List.replicate n [Value.int 0 tb]).flatten (List.replicate n 0) := by
  induction n with
  | zero => exact .nil
  | succ n ih => exact .cons 0 tb ih
theorem back_ints {p k : Nat} {ta tb tc : Tok} : IntsAre (([Value.int ((p : Int) - 1) ta] ++ (List.replicate (((k : Int) - 1).toNat) [Value.int 0 tb]).flatten) ++ [Value.int 1 tc]) (backP p k) := by
  have e : ((k : Int) - 1).toNat = k - 1 := by omega
  rw [e]
  exact .cons _ ta (IntsAre.snoc (zeros_ints (k - 1) tb) 1 tc)
noncomputable def dueP (taps : List Int) (more : Int) (p k : Nat) : Option Int :=
  match commonF 200 (backP p k) (ruleP taps p) p with
  | none => none
  | some n1 => if n1 < 1 ∨ 100 < n1 then none else
    if more = 0 then some ((p : Int) ^ (n1 - 1)) else
    match commonF 200 (backP p k) (widerP (ruleP taps p) p) p with
    | none => none
    | some n2 => if n2 < 1 ∨ 100 < n2 then none else some (((p : Int) ^ (n2 - 1) - (p : Int) ^ (n1 - 1)).fdiv ((p : Int) - 1))
theorem due_c {a : Addr} {taps : List Int} {more r : Int} {p k : Nat} {t t1 t2 : Tok} (C : Cx w mean mg mb base) (hb0 : Sub base.get? s.heap.get?) (R : Room A 3) (ha : At s.heap.get? a (LI taps)) (hp : 2 ≤ p) (hp2 : p ≤ 10) (hk : 1 ≤ k) (hk2 : k ≤ 20) (hz : taps.length ≤ 20) (hr : dueP taps more p k = some r) :
    Does prog w A (call (.ref 180) [.ref a, .int more t1, .int p t, .int k t2]) (fun _ v => isI v r) s := by
  refine' enter (binds := [("taps", .ref a), ("more", .int more t1), ("prime", .int p t), ("k", .int k t2)]) (m := fun z => if z = "k" then some (.int k t2) else if z = "more" then some (.int more t1) else if z = "taps" then some (.ref a) else none) (cv := fun z => if z = "prime" then some (.int p t) else none) C hb0 R ?ho ?hcd ?hbind ?hkind ?hnd ?hm ?hc ?h ?c1 ?c2 ?c3
  walk_at "my_enter"
  intro L h₁ tk S
  obtain ⟨vs, hvs, hvi, hvl⟩ := ints_len ha
  have hpz : (p : Int) ≠ 0 := by omega
  walk_at "go"
  rename St _ _ _ _ _ _ _ _ => S
  refine src_list R.h S (.inl hvs) fun I fp wr Sti h X => ?_
  refine lcE_src X S (by decide) rfl rfl (by rw [sizeLine_eq]; omega) (fun i V ys => IntsAre ys ((taps.map (fun t => (-t).fmod (p : Int))).take i)) .nil ?turn ?done
  case turn =>
    rintro i v C1 D V2 ys mC hb9 h tk hi hv hV2 hm S
    clear X
    obtain ⟨n, tn, rfl, hn⟩ := IntsAre.val hvi hv
    walk_at "go"
    rename St _ _ _ _ _ _ _ _ => S
    refine Elt.go S (Sub.refl _) ?_
    rw [List.take_add_one, List.getElem?_map, hn]
    exact IntsAre.snoc hm _ _
  rintro D V' ys h tk hV hm S
  clear X
  rw [List.take_of_length_le (by rw [List.length_map]; omega)] at hm
  have hyl := hm.length
  rw [List.length_map] at hyl
  have hbl : (backP p k).length ≤ 100 := by simp [backP]; omega
  unfold dueP at hr
  cases hc1 : commonF 200 (backP p k) (ruleP taps p) p with
  | none => rw [hc1] at hr; cases hr
  | some n1 =>
  rw [hc1] at hr
  dsimp only at hr
  by_cases hn1 : n1 < 1 ∨ 100 < n1
  · rw [if_pos hn1] at hr; cases hr
  rw [if_neg hn1] at hr
  walk_at "go"
  rename St _ _ _ _ _ _ _ _ => S
  refine use (common_c (one := backP p k) (other := ruleP taps p) C (hb0.trans S.keepO) R.deeper ?k1 ?k2 hp hp2 hbl hc1) S ?_
  case k1 =>
    refine At.mono (S.getM (by walk_at "mem9")) ?_
    intro o x; exact PL.li x back_ints
  case k2 =>
    refine At.mono (S.getM (by walk_at "mem9")) ?_
    intro o x; exact PL.li x (IntsAre.snoc hm _ _)
  rintro v h' tk V2 hV2 S ⟨F, hF, tv, rfl⟩
  have hp1 : ((n1 : Int) - 1).toNat = n1 - 1 := by omega
  walk_at "go"
  · rename more = 0 => hm0
    rw [if_pos hm0] at hr
    cases hr
    rw [← hp1]
    exact ⟨_, rfl⟩
  · rename more ≠ 0 => hm0
    rw [if_neg hm0] at hr
    walk_at "my_lcA"
    walk_at "go"
    rename St _ _ _ _ _ _ _ _ => S
    obtain ⟨V3, S, hV3, hA3⟩ := S.freeze (pre := []) rfl
    obtain ⟨V4, S, hV4, hA4⟩ := S.freeze (pre := [_]) rfl
    refine src_zip R.h S (.inr (hA4.mono fun _ x => x.pi)) (.inr ((hA3.sub hV4).mono fun _ x => x.pi)) fun z V5 s1 h1 fp wr Pa Sti Mid hV5 S X => ?_
    refine X.W.self 0 _ _ _ X.st ?_
    refine lcA_srcP R.h X S (by decide) rfl rfl rfl (by rw [sizeLine_eq]; simp; omega) rfl rfl (fun i V ys => IntsAre ys ((widerP (ruleP taps p) p).take i)) .nil ?turn6 ?done6
    case turn6 =>
      rintro i v0 v1 C1 D2 V6 zs mC hb9 h tk hi ⟨e0, e1⟩ hV6 hm6 S
      clear X
      obtain ⟨n0, t0, rfl, g0⟩ := IntsAre.val (ns := 0 :: ruleP taps p) (by exact .cons _ _ (IntsAre.snoc hm _ _)) e0
      obtain ⟨n9, t9, rfl, g9⟩ := IntsAre.val (ns := ruleP taps p ++ [0]) (by exact IntsAre.snoc (IntsAre.snoc hm _ _) _ _) e1
      have hg : (widerP (ruleP taps p) p)[i]? = some ((n0 - n9).fmod (p : Int)) := by
        unfold widerP
        rw [List.getElem?_zipWith, g0, g9]
      walk_at "go"
      rename St _ _ _ _ _ _ _ _ => S
      refine Elt.go S (Sub.refl _) ?_
      rw [List.take_add_one, hg]
      exact IntsAre.snoc hm6 _ _
    rintro D2 V6 zs h tk hV6 hm6 S
    clear X
    have hwl : (widerP (ruleP taps p) p).length = taps.length + 2 := by simp [widerP, ruleP]
    rw [List.take_of_length_le (by rw [hwl]; simp; omega)] at hm6
    cases hc2 : commonF 200 (backP p k) (widerP (ruleP taps p) p) p with
    | none => rw [hc2] at hr; cases hr
    | some n2 =>
    rw [hc2] at hr
    dsimp only at hr
    by_cases hn2 : n2 < 1 ∨ 100 < n2
    · rw [if_pos hn2] at hr; cases hr
    rw [if_neg hn2] at hr
    walk_at "go"
    rename St _ _ _ _ _ _ _ _ => S
    refine use (common_c (one := backP p k) (other := widerP (ruleP taps p) p) C (hb0.trans S.keepO) R.deeper ?k1 ?k2 hp hp2 hbl hc2) S ?_
    case k1 =>
      refine At.mono (S.getM (by walk_at "mem9")) ?_
      intro o x; exact PL.li x back_ints
    case k2 =>
      refine At.mono (S.getM (by walk_at "mem9")) ?_
      intro o x; exact PL.li x hm6
    rintro v h' tk V2 hV2 S ⟨F, hF, tv, rfl⟩
    have hp2 : ((n2 : Int) - 1).toNat = n2 - 1 := by omega
    walk_at "go"
    cases hr
    rw [← hp1, ← hp2]
    exact ⟨_, rfl⟩
end
-- App9
section
variable {prog : Program} {w : World} {A : Around} {E : Value → Shared → Prop} {s : Shared} {O V : View} {L : Addr} {m : Str → Option Value} {cl : List (Str × Addr)} {cv : Str → Option Value} {M : Led} {d : Addr} {vs : List Value} {v : Value}
theorem getApp9 {pl : Sem Bool} {Q : Value × List Value → Shared → Prop} (hl : At s.heap.get? d (PL vs)) (h : Q (.builtin "list.append", [.ref d]) s) : wpAny (model prog w) A (getMethod (.ref d) "append" pl) Q E s := by
  obtain ⟨o, e, n, rfl⟩ := hl
  exact getMethod_builtin ⟨_, e, rfl⟩ F.plainAttrs_list F.slot_list_append F.type_list_append (fun _ q => by cases q; exact ⟨_, e, rfl⟩) h
theorem app9 {Q : Value → Shared → Prop} {pre post : Led} (S : St O V L m cl cv M s.heap) (hM : M = pre ++ (d, PL vs) :: post) (hsz : vs.length ≤ 100000)
    (h : ∀ h', St O V L m cl cv (pre ++ (d, PL (vs ++ [v])) :: post) h' → Q .none { s with heap := h' }) : wpAny (model prog w) A (call (.builtin "list.append") [.ref d, v]) Q E s := by
  have hD : s.heap.PlainList d vs.toArray := by
    obtain ⟨o, e, k, rfl⟩ := S.getM (a := d) (P := PL vs) (hM ▸ List.mem_append_right _ (.head _))
    exact ⟨k, e⟩
  refine wpAny_list_append_plain (hsz := by rw [List.size_toArray, sizeLine_eq]; omega) hD fun h₄ hD₄ hs₄ => ?_
  refine h _ (S.turn hM ?_ hs₄)
  obtain ⟨k, e⟩ := hD₄
  exact ⟨_, e, k, by simp⟩
theorem dTailN {Q : Value → Shared → Prop} {kvs : List (Str × Value)} {k : Str} {tk : Tok} {value slice : Expr} {x : Value} (hd : At s.heap.get? d (PD prog w kvs)) (hv : valueAt kvs k = some x) (h : Q x { s with toks := s.toks + 1 })
    (hs : subscripted slice false (.ref d) (.str k tk) = operate [.ref d, .str k tk] (getItem (.ref d) (.str k tk)) := by with_unfolding_all rfl) : wpAny (model prog w) A (subscriptTail value slice (.ref d) (.str k tk)) Q E s := dTail hd hv h hs
end
-- Fn10
section
variable {prog : Program} {w : World} {mean : ExcName → Option Value} {mg mb : Str → Option Value} {base : Heap} {A : Around} {s : Shared}
set_option maxHeartbeats 4000000
variable {K : Type} [DecidableEq K] {nm : K → Str}
noncomputable def itN {K : Type} (nx : K → K) : Nat → K → K
  | 0, c => c
  | k + 1, c => nx (itN nx k c)
noncomputable def retP {K : Type} [DecidableEq K] (nx : K → K) (cs : List K) (k : Nat) : Nat := (cs.map fun c => decide (itN nx k c = c)).count true
theorem itN_mem {K : Type} {nx : K → K} {cs : List K} (hcl : ∀ c ∈ cs, nx c ∈ cs) {c : K} (hc : c ∈ cs) : ∀ k, itN nx k c ∈ cs
  | 0 => hc
  | k + 1 => hcl _ (itN_mem hcl hc k)
end
local macro_rules | `(tactic| walk_at "getMethod ref") => `(tactic| (refine' getApp9 ?h ?_; (case h => walk_at "at9")))
section
variable {prog : Program} {w : World} {mean : ExcName → Option Value} {mg mb : Str → Option Value} {base : Heap} {A : Around} {s : Shared}
set_option maxHeartbeats 4000000
variable {K : Type} [DecidableEq K] {nm : K → Str}
theorem LS.pick {h : Heap} {a : Addr} {xs : List Str} (x : At h.get? a (LS xs)) : ∃ vs, At h.get? a (PI vs) ∧ StrsAre vs xs ∧ vs.length = xs.length := let ⟨o, e, vs, p, q⟩ := x; ⟨vs, ⟨o, e, p⟩, q, q.length⟩
theorem LS.old {O V : View} {a : Addr} {xs : List Str} (x : Old O V a (LS xs)) : ∃ vs, Old O V a (PI vs) ∧ StrsAre vs xs ∧ vs.length = xs.length := by
  rcases x with ⟨o, e, vs, p, q⟩ | ⟨o, e, vs, p, q⟩
  · exact ⟨vs, .inl ⟨o, e, p⟩, q, q.length⟩
  · exact ⟨vs, .inr ⟨o, e, p⟩, q, q.length⟩
theorem returns_c {wl g : Addr} {cs : List K} {gs : List (K × K)} {nx : K → K} {kvs : List (Str × Value)} (C : Cx w mean mg mb base) (hb0 : Sub base.get? s.heap.get?) (R : Room A 2) (inj : ∀ a b, nm a = nm b → a = b) (hw : At s.heap.get? wl (LS (cs.map nm))) (hg : At s.heap.get? g (PD prog w kvs)) (hkv : KvR nm (isS nm) kvs gs) (hgs : ∀ c ∈ cs, getK gs c = some (nx c)) (hcl : ∀ c ∈ cs, nx c ∈ cs) (hz : cs.length ≤ 100) :
    Does prog w A (call (.ref 163) [.ref wl, .ref g]) (fun V v => ∃ d, v = .ref d ∧ At V d (LI ((List.range 8).map fun k => ((retP nx cs (k + 1) : Nat) : Int)))) s := by
  refine' enter (binds := [("windows", .ref wl), ("goes", .ref g)]) (m := fun z => if z = "windows" then some (.ref wl) else none) (cv := fun z => if z = "goes" then some (.ref g) else none) C hb0 R ?ho ?hcd ?hbind ?hkind ?hnd ?hm ?hc ?h ?c1 ?c2 ?c3
  walk_at "my_enter"
  intro L h₁ tk S
  obtain ⟨wvs, hwp, hwi, hwl⟩ := LS.pick hw
  rw [List.length_map] at hwl
  walk_at "go"
  rename St _ _ _ _ _ _ _ _ => S
  rename IsRange _ _ _ _ _ _ _ _ => hr9
  refine src_rngG (n := 8) R.h S hr9 (by decide +kernel) (by decide +kernel) fun I fp wr Sti h X => ?_
  refine for_src X S rfl rfl rfl (fun i V m cv M => ∃ ys now, m "told" = some (.ref _) ∧ M = [(_, PL ys)] ∧ IntsAre ys (((List.range 8).map fun k => ((retP nx cs (k + 1) : Nat) : Int)).take i) ∧ m "now" = some (.ref now) ∧ Old s.heap.get? V now (LS (cs.map fun c => nm (itN nx i c))) ∧ m "windows" = some (.ref wl) ∧ cv "goes" = some (.ref g)) ⟨_, _, rfl, rfl, .nil, rfl, .inl hw, rfl, rfl⟩ ?turn ?done
  case done =>
    rintro V' m' cv' M' h tk hV ⟨ys, now, h1, rfl, h2, h3, h4, h5, h6⟩ S
    clear X
    walk_at "go"
    rename St _ _ _ _ _ _ _ _ => S
    rw [List.take_of_length_le (by simp)] at h2
    exact (S.newM (Sub.refl _) (.head _)).mono fun _ x => PL.li x h2
  rintro i v V' m' cv' M' hb h tk hi ⟨ti, rfl⟩ hV ⟨ys, now, h1, rfl, h2, h3, h4, h5, h6⟩ S
  clear X
  obtain ⟨nvs, hnp, hni, hnl⟩ := LS.old h4
  rw [List.length_map] at hnl
  walk_at "go"
  walk_at "my_lcA"
  walk_at "go"
  rename St _ _ _ _ _ _ _ _ => S
  refine src_list R.h S hnp fun I fp wr Sti h X => ?_
  refine lcA_src X S (by decide) rfl rfl (by rw [sizeLine_eq]; omega) rfl rfl (fun j V ys => StrsAre ys ((cs.map fun c => nm (itN nx (i + 1) c)).take j)) .nil ?turn2 ?done2
  case turn2 =>
    rintro j v C1 D2 V2 zs mC hb9 h tk hj hv hV2 hm2 S
    clear X
    obtain ⟨x, tx, rfl, hx⟩ := StrsAre.val hni hv
    rw [List.getElem?_map] at hx
    obtain ⟨c, hc, rfl⟩ := Option.map_eq_some_iff.mp hx
    walk_at "go"
    rename St _ _ _ _ _ _ _ _ => S
    have hcm : itN nx i c ∈ cs := itN_mem hcl (List.mem_of_getElem? hc) i
    rcases hkv.get inj (itN nx i c) with ⟨_, e2⟩ | ⟨v3, c3, e1, e2, t3, rfl⟩
    · rw [hgs _ hcm] at e2; cases e2
    rw [hgs _ hcm] at e2
    cases e2
    refine dTailN (S.getO hg) e1 ?_
    walk_at "go"
    refine Elt.go S (Sub.refl _) ?_
    rw [List.take_add_one, List.getElem?_map, hc]
    exact StrsAre.snoc hm2 _ _
  rintro D2 V2 zs h tk hV2 hm2 S
  clear X
  rw [List.take_of_length_le (by rw [List.length_map]; omega)] at hm2
  obtain ⟨V3, S, hV3, hA3⟩ := S.freeze (pre := []) rfl
  walk_at "go"
  rename St _ _ _ _ _ _ _ _ => S
  refine src_zip R.h S (.inr (hA3.mono fun _ x => x.pi)) (.inl hwp) fun z V5 s99 h99 fp wr Pa Sti Mid hV5 S X => ?_
  refine X.W.self 0 _ _ _ X.st ?_
  have hzl := hm2.length
  rw [List.length_map] at hzl
  refine lcE_srcP R.h X S (by decide) rfl rfl rfl (by rw [sizeLine_eq]; omega) (fun j V ys => ys = ((cs.map fun c => decide (itN nx (i + 1) c = c)).take j).map .bool) rfl ?turn6 ?done6
  case turn6 =>
    rintro j v0 v1 C1 D3 V6 us mC hb9 h tk hj ⟨e0, e1⟩ hV6 rfl S
    clear X
    obtain ⟨x0, tx0, rfl, hx0⟩ := StrsAre.val hm2 e0
    obtain ⟨x1, tx1, rfl, hx1⟩ := StrsAre.val hwi e1
    rw [List.getElem?_map] at hx0 hx1
    obtain ⟨c, hc, rfl⟩ := Option.map_eq_some_iff.mp hx0
    rw [hc] at hx1
    cases hx1
    walk_at "go"
    rename St _ _ _ _ _ _ _ _ => S
    refine Elt.go S (Sub.refl _) ?_
    have hbq : (nm (itN nx (i + 1) c) == nm c) = decide (itN nx (i + 1) c = c) := by
      by_cases q : itN nx (i + 1) c = c
      · simp [q]
      · rw [decide_eq_false q]; exact beq_eq_false_iff_ne.mpr fun e => q (inj _ _ e)
    have hcj : (cs.map fun c => decide (itN nx (i + 1) c = c))[j]? = some (decide (itN nx (i + 1) c = c)) := by rw [List.getElem?_map, hc]; rfl
    rw [hbq, List.take_add_one, hcj]
    simp
  rintro D3 V6 us h tk hV6 hus S
  clear X
  rw [List.take_of_length_le (by rw [List.length_map]; omega)] at hus
  subst hus
  walk_at "go"
  rename St _ _ _ _ _ _ _ _ => S
  refine use (countOf_c C (hb0.trans S.keepO) R.deeper (S.getM (.head _))) S ?_
  rintro v h' tk V7 hV7 S ⟨F, hF, t7, rfl⟩
  walk_at "go"
  rename St _ _ _ _ _ _ _ _ => S
  refine app9 (pre := own hb _) (post := []) S.tail rfl (by have := h2.length; simp at this; omega) ?_
  intro h' S
  walk_at "go"
  rename St _ _ _ _ _ _ _ _ => S
  refine Turned.go S (hV2.trans (hV3.trans (hV5.trans (hV6.trans hV7)))) ⟨_, _, h1, rfl, ?_, rfl, .inr ((hA3.sub (hV5.trans (hV6.trans hV7))).mono fun _ x => ⟨_, x.pi, hm2⟩), h5, h6⟩
  have hci : ((List.range 8).map fun k => ((retP nx cs (k + 1) : Nat) : Int))[i]? = some ((retP nx cs (i + 1) : Nat) : Int) := by rw [List.getElem?_map, List.getElem?_range hi]; rfl
  rw [List.take_add_one, hci]
  exact IntsAre.snoc h2 _ _
end
-- Fn11
section
variable {prog : Program} {w : World} {mean : ExcName → Option Value} {mg mb : Str → Option Value} {base : Heap} {A : Around} {s : Shared}
set_option maxHeartbeats 4000000
end
local macro_rules | `(tactic| walk_at "mem9") => `(tactic| first | exact .head _ | (refine List.mem_append_right _ ?_; walk_at "mem9") | (refine List.Mem.tail _ ?_; walk_at "mem9"))
section
variable {prog : Program} {w : World} {mean : ExcName → Option Value} {mg mb : Str → Option Value} {base : Heap} {A : Around} {s : Shared}
set_option maxHeartbeats 4000000
variable {K : Type} [DecidableEq K] {nm : K → Str}
noncomputable def putU {K : Type} [DecidableEq K] (n : List K) (c : K) : List K := if c ∈ n then n else n ++ [c]
noncomputable def nearU {K : Type} [DecidableEq K] (alive l : List K) : List K := l.foldl (fun n c => if c ∈ alive then putU n c else n) []
noncomputable def nOf {K : Type} [DecidableEq K] (tb : List (K × List K)) (alive : List K) (c : K) : Nat := (nearU alive ((getK tb c).getD [])).length
noncomputable def cntsOf {K : Type} [DecidableEq K] (tb : List (K × List K)) (alive l : List K) : List Int := (l.filter fun c => nOf tb alive c ≠ 0).map fun c => ((nOf tb alive c : Nat) : Int)
noncomputable def leftOf {K : Type} [DecidableEq K] (tb : List (K × List K)) (alive l : List K) : List K := l.filter fun c => nOf tb alive c ≠ 0
noncomputable def struckF {K : Type} [DecidableEq K] (tb : List (K × List K)) : Nat → List K → Option (List (List Int))
  | 0, _ => none
  | k + 1, alive => if (leftOf tb alive alive).length = alive.length then some [cntsOf tb alive alive] else
      match struckF tb k (leftOf tb alive alive) with
      | some r => some (cntsOf tb alive alive :: r)
      | none => none
theorem putK_putU {K : Type} [DecidableEq K] (n : List K) (c : K) (x : Int) : putK (n.map fun c => (c, x)) c x = (putU n c).map fun c => (c, x) := by
  induction n with
  | nil => simp [putK, putU]
  | cons a r ih =>
    simp only [List.map_cons, putK]
    by_cases q : a = c
    · subst q
      simp [putU]
    · rw [if_neg q, ih]
      unfold putU
      by_cases z : c ∈ r
      · rw [if_pos z, if_pos (List.mem_cons_of_mem _ z)]; rfl
      · rw [if_neg z, if_neg (by intro h; rcases List.mem_cons.mp h with e | h; exact q e.symm; exact z h)]; simp
/-- values that are lists of ints -/
inductive LLR (V : View) : List Value → List (List Int) → Prop
  | nil : LLR V [] []
  | cons {a : Addr} {ns : List Int} {vs : List Value} {nss : List (List Int)} : At V a (LI ns) → LLR V vs nss → LLR V (.ref a :: vs) (ns :: nss)
theorem LLR.sub {V V' : View} {vs : List Value} {nss : List (List Int)} (h : LLR V vs nss) (k : Sub V V') : LLR V' vs nss := by
  induction h with
  | nil => exact .nil
  | cons a _ ih => exact .cons (a.sub k) ih
theorem LLR.snoc {V : View} {vs : List Value} {nss : List (List Int)} (h : LLR V vs nss) {a : Addr} {ns : List Int} (x : At V a (LI ns)) : LLR V (vs ++ [.ref a]) (nss ++ [ns]) := by
  induction h with
  | nil => exact .cons x .nil
  | cons a _ ih => exact .cons a ih
theorem LLR.length {V : View} {vs : List Value} {nss : List (List Int)} (h : LLR V vs nss) : vs.length = nss.length := by
  induction h with
  | nil => rfl
  | cons a _ ih => rw [List.length_cons, List.length_cons, ih]
noncomputable def RT (prog : Program) (w : World) (nm : K → Str) (O : View) (share : Int) (v : Value) (l : List K) : Prop := ∃ a, v = .ref a ∧ (a == sysModules) = false ∧ At O a (KI prog w nm (l.map fun c => (c, share)))
theorem tbl_get {prog : Program} {w : World} {O V : View} {share : Int} {kvs : List (Str × Value)} {tb : List (K × List K)} (inj : ∀ a b, nm a = nm b → a = b) (hkv : KvR nm (RT prog w nm O share) kvs tb) (c : K) {d : Addr} (hd : (d == sysModules) = false) (hA : At V d (PD prog w [])) :
    ∃ a, (valueAt kvs (nm c)).getD (.ref d) = .ref a ∧ (a == sysModules) = false ∧ Old O V a (KI prog w nm (((getK tb c).getD []).map fun c => (c, share))) := by
  rcases hkv.get inj c with ⟨e1, e2⟩ | ⟨v, l, e1, e2, a, rfl, hs, hx⟩
  · rw [e1, e2]; exact ⟨d, rfl, hd, .inr (hA.mono fun _ x => ⟨[], x, .nil⟩)⟩
  · rw [e1, e2]; exact ⟨a, rfl, hs, .inl hx⟩
theorem getK_len {tb : List (K × List K)} (h : ∀ p ∈ tb, p.2.length ≤ 100) (c : K) : ((getK tb c).getD []).length ≤ 100 := by
  induction tb with
  | nil => simp [getK]
  | cons p r ih =>
    simp only [getK]
    split
    · exact h p (.head _)
    · exact ih fun q hq => h q (.tail _ hq)
theorem nearU_len (alive l : List K) : (nearU alive l).length ≤ l.length := by
  have key : ∀ (l n : List K), (l.foldl (fun n c => if c ∈ alive then putU n c else n) n).length ≤ n.length + l.length := by
    intro l
    induction l with
    | nil => intro n; simp
    | cons a r ih =>
      intro n
      rw [List.foldl_cons, List.length_cons]
      refine Nat.le_trans (ih _) ?_
      split
      · unfold putU; split <;> simp <;> omega
      · omega
  simpa [nearU] using key l []

theorem struck_c {wl g : Addr} {cs : List K} {tb : List (K × List K)} {kvs : List (Str × Value)} {share : Int} {t : Tok} {total : List (List Int)} (C : Cx w mean mg mb base) (hb0 : Sub base.get? s.heap.get?) (R : Room A 2) (inj : ∀ a b, nm a = nm b → a = b) (hw : At s.heap.get? wl (LS (cs.map nm))) (hgs : (g == sysModules) = false) (hg : At s.heap.get? g (PD prog w kvs)) (hkv : KvR nm (RT prog w nm s.heap.get? share) kvs tb) (hsh : share ≠ 0) (hsh2 : share.natAbs < 1073741824) (hz : cs.length ≤ 100) (hlz : ∀ p ∈ tb, p.2.length ≤ 100) (hr : struckF tb 100 cs = some total) :
    Does prog w A (call (.ref 158) [.ref wl, .ref g, .int share t]) (fun V v => ∃ d vs, v = .ref d ∧ At V d (PI vs) ∧ LLR V vs total) s := by
  refine' enter (binds := [("windows", .ref wl), ("table", .ref g), ("share", .int share t)]) (m := fun z => if z = "share" then some (.int share t) else if z = "table" then some (.ref g) else if z = "windows" then some (.ref wl) else none) (cv := fun _ => none) C hb0 R ?ho ?hcd ?hbind ?hkind ?hnd ?hm ?hc ?h ?c1 ?c2 ?c3
  walk_at "my_enter"
  intro L h₁ tk S
  have hb3 : s.heap.get? 3 ≠ none := by rw [hb0 _ _ (C.X _ _ (by k_is))]; simp
  walk_at "go"
  rename St _ _ _ _ _ _ _ _ => S
  refine while_st S (fun n V m cv M => ∃ al alive ys done rest, m "alive" = some (.ref al) ∧ Old s.heap.get? V al (LS (alive.map nm)) ∧ m "told" = some (.ref _) ∧ M = [(_, PL ys)] ∧ LLR V ys done ∧ ys.length + n ≤ 100 ∧ struckF tb n alive = some rest ∧ done ++ rest = total ∧ alive.length ≤ 100 ∧ m "table" = some (.ref g) ∧ m "share" = some (.int share t)) 100 ⟨wl, cs, _, [], total, rfl, .inl hw, rfl, rfl, .nil, by decide, hr, rfl, hz, rfl, rfl⟩ ?turn
  rintro n V' m' cv' M' h tk hV ⟨al, alive, ys, dn, rest, h1, h2, h3, rfl, h4, h4z, h5, h6, h7, h8, h9⟩ S
  cases n with
  | zero => cases h5
  | succ n =>
  walk_at "go"
  rename St _ _ _ _ _ _ _ _ => S
  obtain ⟨avs, hap, hai, hal⟩ := LS.old h2
  rw [List.length_map] at hal
  refine src_list R.h S hap fun I fp wr Sti h X => ?_
  refine for_src X S rfl rfl rfl (fun i V m cv M => ∃ cys lys, M = [(_, PL lys), (_, PL cys), (_, PL ys)] ∧ IntsAre cys (cntsOf tb alive (alive.take i)) ∧ StrsAre lys ((leftOf tb alive (alive.take i)).map nm) ∧ m "counts" = some (.ref _) ∧ m "left" = some (.ref _) ∧ m "told" = some (.ref _) ∧ m "alive" = some (.ref al) ∧ m "table" = some (.ref g) ∧ m "share" = some (.int share t)) ⟨[], [], rfl, .nil, .nil, rfl, rfl, h3, h1, h8, h9⟩ ?turn2 ?done2
  case turn2 =>
    rintro i v V2 m2 cv2 M2 hb h tk hi hv hV2 ⟨cys, lys, rfl, g1, g2, g3, g4, g5, g6, g7, g8⟩ S
    clear X
    obtain ⟨x, tx, rfl, hx⟩ := StrsAre.val hai hv
    rw [List.getElem?_map] at hx
    obtain ⟨c, hc, rfl⟩ := Option.map_eq_some_iff.mp hx
    walk_at "go"
    rename St _ _ _ _ _ _ _ _ => S
    rename (_ == sysModules) = false => hdef
    revert hdef
    rename (_ == sysModules) = false => hnear
    intro hdef
    obtain ⟨V3, S, hV3, hA3⟩ := S.freeze (pre := []) rfl
    obtain ⟨a3, he3, hs3, ho3⟩ := tbl_get (V := V3) inj hkv c hdef hA3
    obtain ⟨kq, hoq, hkq⟩ : ∃ kq, Old s.heap.get? V3 a3 (PD prog w kq) ∧ KvR nm isI kq (((getK tb c).getD []).map fun c => (c, share)) := by
      rcases ho3 with ⟨o, e, kq, q, r⟩ | ⟨o, e, kq, q, r⟩
      · exact ⟨kq, .inl ⟨o, e, q⟩, r⟩
      · exact ⟨kq, .inr ⟨o, e, q⟩, r⟩
    have hll := getK_len hlz c
    rw [he3]
    walk_at "go"
    rename St _ _ _ _ _ _ _ _ => S
    rename Heap.IsItemsView _ _ _ => hv9
    refine src_items R.h S hv9 hoq fun I3 fp3 wr3 Pa3 Sti3 Mid3 h3 X => ?_
    refine for_srcP X S R.h rfl rfl rfl rfl (fun j V m cv M => ∃ kn, M = (_, PD prog w kn) :: (own hb wr ++ [(_, PL lys), (_, PL cys), (_, PL ys)]) ∧ KvR nm isI kn (((((getK tb c).getD []).take j).foldl (fun n c => if c ∈ alive then putU n c else n) []).map fun c => (c, share)) ∧ m "near" = some (.ref _) ∧ m "counts" = some (.ref _) ∧ m "left" = some (.ref _) ∧ m "told" = some (.ref _) ∧ m "alive" = some (.ref al) ∧ m "table" = some (.ref g) ∧ m "share" = some (.int share t) ∧ m "window" = some (.str (nm c) tx)) ⟨[], rfl, .nil, rfl, g3, g4, g5, g6, g7, g8, rfl⟩ ?turn3 ?done3
    case turn3 =>
      rintro j key v V4 m4 cv4 M4 hb4 h4 tk hj ⟨k, hv4, hkey⟩ hV4 ⟨kn, rfl, hkn, f1, f2, f3, f4, f5, f6, f7, f8⟩ S
      clear X
      obtain ⟨c2, n2, hn2, rfl, t2, rfl⟩ := hkq.at hv4
      obtain ⟨t4, rfl⟩ := str_key hkey
      rw [List.getElem?_map] at hn2
      obtain ⟨c3, hc3, e3⟩ := Option.map_eq_some_iff.mp hn2
      obtain ⟨rfl, rfl⟩ : c3 = c2 ∧ share = n2 := Prod.mk.inj e3
      walk_at "go"
      rename St _ _ _ _ _ _ _ _ => S
      refine use (contains_c C (hb0.trans S.keepO) R.deeper ((((h2.sub hV2).sub hV3).sub hV4).at S)) S ?_
      rintro v h' tk V5 hV5 S ⟨F, hF, rfl⟩
      have hany : (alive.map nm).any (fun x => x == nm c3) = decide (c3 ∈ alive) := by
        by_cases q : c3 ∈ alive
        · rw [decide_eq_true q]; exact List.any_eq_true.mpr ⟨nm c3, List.mem_map_of_mem q, by simp⟩
        · rw [decide_eq_false q]
          refine List.any_eq_false.mpr fun y hy => ?_
          obtain ⟨z, hz, rfl⟩ := List.mem_map.mp hy
          intro e
          exact q (inj _ _ (eq_of_beq e) ▸ hz)
      rw [hany]
      have hknl : kn.length ≤ 100 := by
        rw [hkn.length, List.length_map]
        refine Nat.le_trans (nearU_len alive (((getK tb c).getD []).take j)) ?_
        rw [List.length_take]; omega
      have hft := fold_take (fun n c => if c ∈ alive then putU n c else n) ([] : List K) _ hc3
      by_cases q : c3 ∈ alive
      · rw [decide_eq_true q]
        walk_at "go"
        rename St _ _ _ _ _ _ _ _ => S
        have hP := S.getM (List.mem_append_right _ (.head _))
        refine dSet S rfl (fun _ x => x) (fun h' S => ?_) (by rw [sizeLine_eq]; omega)
        walk_at "go"
        rename St _ _ _ _ _ _ _ _ => S
        refine Turned.go S hV5 ⟨_, rfl, ?_, f1, f2, f3, f4, f5, f6, f7, f8⟩
        rw [hft, if_pos q, ← putK_putU]
        exact hkn.put inj (by obtain ⟨_, _, q⟩ := hP; exact q.nodup) c3 ⟨t2, rfl⟩
      · rw [decide_eq_false q]
        walk_at "go"
        rename St _ _ _ _ _ _ _ _ => S
        refine Turned.go S hV5 ⟨kn, rfl, ?_, f1, f2, f3, f4, f5, f6, f7, f8⟩
        rw [hft, if_neg q]; exact hkn
    rintro V4 m4 cv4 M4 h4 tk hV4 ⟨kn, rfl, hkn, f1, f2, f3, f4, f5, f6, f7, f8⟩ S
    clear X
    rw [List.take_of_length_le (by rw [hkq.length, List.length_map]; exact Nat.le_refl _)] at hkn
    have hnn : nOf tb alive c = (nearU alive ((getK tb c).getD [])).length := rfl
    walk_at "go"
    rename St _ _ _ _ _ _ _ _ => S
    refine use (count_calls_c (ps := (nearU alive ((getK tb c).getD [])).map fun c => (c, share)) C (hb0.trans S.keepO) R.deeper hnear ((S.getM (.head _)).mono fun _ x => ⟨_, x, hkn⟩)) S ?_
    rintro v h' tk V5 hV5 S ⟨F, hF, t9, rfl⟩
    have hsum : (((nearU alive ((getK tb c).getD [])).map fun c => (c, share)).map (·.2)).sum = ((nOf tb alive c : Nat) : Int) * share := by
      rw [hnn]
      generalize nearU alive ((getK tb c).getD []) = l
      induction l with
      | nil => simp
      | cons a r ih => rw [List.map_cons, List.map_cons, List.sum_cons, ih, List.length_cons]; push_cast; rw [Int.add_mul]; omega
    rw [hsum]
    have hVV : Sub V2 V5 := hV3.trans (hV4.trans hV5)
    have htk : alive.take (i + 1) = alive.take i ++ [c] := by rw [List.take_add_one, hc]; rfl
    by_cases hn0 : nOf tb alive c = 0
    · have hz0 : ((nOf tb alive c : Nat) : Int) * share = 0 := by rw [hn0]; simp
      rw [hz0]
      walk_at "go"
      rename St _ _ _ _ _ _ _ _ => S
      have e1 : cntsOf tb alive (alive.take (i + 1)) = cntsOf tb alive (alive.take i) := by rw [htk]; simp [cntsOf, hn0]
      have e2 : leftOf tb alive (alive.take (i + 1)) = leftOf tb alive (alive.take i) := by rw [htk]; simp [leftOf, hn0]
      exact Turned.go S.tail hVV ⟨cys, lys, rfl, by rw [e1]; exact g1, by rw [e2]; exact g2, f2, f3, f4, f5, f6, f7⟩
    · have hz1 : ((nOf tb alive c : Nat) : Int) * share ≠ 0 := Int.mul_ne_zero (by omega) hsh
      generalize hQ : ((nOf tb alive c : Nat) : Int) * share = calls at hz1
      have hmo : calls.fmod share = 0 := by rw [← hQ]; exact Int.mul_fmod_left _ _
      have hfl : calls.fdiv share = ((nOf tb alive c : Nat) : Int) := by rw [← hQ]; exact Int.mul_fdiv_cancel _ hsh
      walk_at "go"
      case neg.refine'_2.refine_2 => rename calls = 0 => h00; exact absurd h00 hz1
      rename St _ _ _ _ _ _ _ _ => S
      refine use (mod_c C (hb0.trans S.keepO) R.deeper hsh) S ?_
      rintro v h' tk V6 hV6 S ⟨F, hF, t8, rfl⟩
      rw [hmo]
      walk_at "go"
      rename St _ _ _ _ _ _ _ _ => S
      refine use (floordiv_c C (hb0.trans S.keepO) R.deeper hsh2 hsh) S ?_
      rintro v h' tk V7 hV7 S ⟨F, hF, t7, rfl⟩
      rw [hfl]
      walk_at "go"
      rename St _ _ _ _ _ _ _ _ => S
      have hcl9 := g1.length
      have hll9 := g2.length
      have hcl8 : cys.length ≤ 100 := by
        rw [hcl9]; unfold cntsOf; rw [List.length_map]; refine Nat.le_trans (List.length_filter_le _ _) ?_; rw [List.length_take]; omega
      have hll8 : lys.length ≤ 100 := by
        rw [hll9]; unfold leftOf; rw [List.length_map]; refine Nat.le_trans (List.length_filter_le _ _) ?_; rw [List.length_take]; omega
      refine app9 S.tail (List.append_assoc _ [_] [_, _]).symm (by omega) ?_
      intro h' S
      rw [List.append_assoc] at S
      walk_at "go"
      rename St _ _ _ _ _ _ _ _ => S
      refine app9 (pre := own hb wr) S rfl (by omega) ?_
      intro h' S
      walk_at "go"
      rename St _ _ _ _ _ _ _ _ => S
      have e1 : cntsOf tb alive (alive.take (i + 1)) = cntsOf tb alive (alive.take i) ++ [((nOf tb alive c : Nat) : Int)] := by rw [htk]; simp [cntsOf, hn0]
      have e2 : (leftOf tb alive (alive.take (i + 1))).map nm = (leftOf tb alive (alive.take i)).map nm ++ [nm c] := by rw [htk]; simp [leftOf, hn0]
      exact Turned.go S (hVV.trans (hV6.trans hV7)) ⟨_, _, rfl, by rw [e1]; exact IntsAre.snoc g1 _ _, by rw [e2]; exact StrsAre.snoc g2 _ _, f2, f3, f4, f5, f6, f7⟩
  rintro V2 m2 cv2 M2 h tk hV2 ⟨cys, lys, rfl, g1, g2, g3, g4, g5, g6, g7, g8⟩ S
  clear X
  rw [List.take_of_length_le (by omega)] at g1 g2
  unfold struckF at h5
  walk_at "go"
  rename St _ _ _ _ _ _ _ _ => S
  refine app9 (pre := [_, _]) (post := []) S rfl (by omega) ?_
  intro h' S
  obtain ⟨V3, S, hV3, hA3⟩ := S.freeze (pre := []) rfl
  obtain ⟨V4, S, hV4, hA4⟩ := S.freeze (pre := []) rfl
  have hleft : Old s.heap.get? V4 _ (LS ((leftOf tb alive alive).map nm)) := .inr ((hA3.sub hV4).mono fun _ x => ⟨_, x.pi, g2⟩)
  have hcnts := (hA4.mono fun _ x => PL.li x g1)
  have hnew := (((h4.sub hV2).sub hV3).sub hV4).snoc hcnts
  have hll : (leftOf tb alive alive).length ≤ alive.length := List.length_filter_le _ _
  have hgl := g2.length
  rw [List.length_map] at hgl
  walk_at "go"
  rename St _ _ _ _ _ _ _ _ => S
  obtain ⟨lvs, hlp, hli, hlll⟩ := LS.old hleft
  rw [List.length_map] at hlll
  refine lenL9 (hlp.at S) hlll (by omega) ?_
  intro _ _
  walk_at "go"
  rename St _ _ _ _ _ _ _ _ => S
  refine lenL9 ((((hap.sub hV2).sub hV3).sub hV4).at S) hal (by omega) ?_
  intro _ _
  walk_at "go"
  · rename St _ _ _ _ _ _ _ _ => S
    rename ((leftOf tb alive alive).length : Int) = (alive.length : Int) => heq
    rw [if_pos (by omega)] at h5
    cases h5
    refine ⟨S.keeps (Sub.refl _), _, _, rfl, (S.newM (Sub.refl _) (.head _)).mono fun _ x => x.pi, ?_⟩
    rw [← h6]
    exact hnew.sub (S.new (Sub.refl _))
  · rename St _ _ _ _ _ _ _ _ => S
    rename ¬ ((leftOf tb alive alive).length : Int) = (alive.length : Int) => heq
    rw [if_neg (by omega)] at h5
    cases hrr : struckF tb n (leftOf tb alive alive) with
    | none => rw [hrr] at h5; cases h5
    | some r =>
    rw [hrr] at h5
    cases h5
    exact TurnedW.go S (hV2.trans (hV3.trans hV4)) (Nat.lt_succ_self n) ⟨_, leftOf tb alive alive, _, _, r, rfl, hleft, g5, rfl, hnew, by rw [List.length_append, List.length_singleton]; omega, hrr, by rw [← h6]; simp, by omega, g7, g8⟩
end
-- DOne
/-- a display of one pair: what stands behind its two parts -/
noncomputable def OneP (prog : Program) (w : World) (O V : View) (L : Addr) (m : Str → Option Value) (cl : List (Str × Addr)) (cv : Str → Option Value) (M : Led) (d : Addr) (s : Shared) (Q : Value → Shared → Prop) (kv vv : Value) (s₂ : Shared) : Prop :=
  ∃ x t h₂ k₂, kv = .str x t ∧ s₂ = { s with heap := h₂, toks := k₂ } ∧ St O V L m cl cv ((d, PD prog w []) :: M) h₂ ∧ ∀ h' k', St O V L m cl cv ((d, PD prog w [(x, vv)]) :: M) h' → Q (.ref d) { s with heap := h', toks := k' }
section
variable {prog : Program} {w : World} {A : Around} {E : Value → Shared → Prop} {s : Shared} {O V : View} {L : Addr} {m : Str → Option Value} {cl : List (Str × Addr)} {cv : Str → Option Value} {M : Led} {env : Env}
theorem OneP.go {d : Addr} {Q : Value → Shared → Prop} {x : Str} {t : Tok} {vv : Value} {h₂ : Heap} {k₂ : Nat} (S : St O V L m cl cv ((d, PD prog w []) :: M) h₂) (h : ∀ h' k', St O V L m cl cv ((d, PD prog w [(x, vv)]) :: M) h' → Q (.ref d) { s with heap := h', toks := k' }) :
    OneP prog w O V L m cl cv M d s Q (.str x t) vv { s with heap := h₂, toks := k₂ } := ⟨x, t, h₂, k₂, rfl, rfl, S, h⟩
theorem dOne {k v : Expr} {pos : Pos} {Q : Value → Shared → Prop} (S : St O V L m cl cv M s.heap) (hb : O 3 ≠ none)
    (h : ∀ d h', (d == sysModules) = false → St O V L m cl cv ((d, PD prog w []) :: M) h' →
      wpAny (model prog w) A (eval k env) (fun kv s₁ => wpAny (model prog w) A (eval v env) (fun vv s₂ => OneP prog w O V L m cl cv M d s Q kv vv s₂) E s₁) E { s with heap := h' }) :
    wpAny (model prog w) A (eval (.Dict [some k] [v] pos) env) Q E s := by
  refine wpAny_Dict_walk (knd := strKind prog w) rfl rfl (by simp) (by simp) ?_
  have hs : (s.heap.objs.size == sysModules) = false := by
    refine low ?_ size_none (Nat.le_refl _)
    cases q : O 3 with
    | none => exact absurd q hb
    | some o => rw [S.keepO _ _ q]; simp
  have hPD : PD prog w [] { cls := .type "dict", data := .dict #[] } := by
    obtain ⟨o, ho, hd⟩ := Heap.dictOf_iff.mp (Heap.DictOf.new (knd := strKind prog w) s.heap)
    rw [Heap.get?_push_size _ rfl] at ho
    exact (Option.some.inj ho) ▸ hd
  refine pairTrees_cons_walk (wpAny_mono (h _ _ hs (S.alloc _ hPD)) (fun kv s₁ h₁ => wpAny_mono h₁ (fun vv s₂ h₂ => pairTrees_nil_walk ?_) fun _ _ e => e) fun _ _ e => e)
  obtain ⟨x, t, h₂, k₂, rfl, rfl, S2, hq⟩ := h₂
  refine ⟨[(x, vv)], ⟨strKind_is prog w x t, rfl, trivial⟩, PD.dictOf (S2.getM (.head _)), fun h' hm hs' => ?_⟩
  exact hq h' _ (S2.turn (pre := []) rfl (Heap.dictOf_iff.mp hm) hs')
end
-- Fn12
section
variable {prog : Program} {w : World} {mean : ExcName → Option Value} {mg mb : Str → Option Value} {base : Heap} {A : Around} {s : Shared}
set_option maxHeartbeats 4000000
end
local macro_rules | `(tactic| walk_at "eval Dict cons cons") => `(tactic| ((rename St _ _ _ _ _ _ _ _ => S9); (refine' dOne S9 ?h ?_; (case h => assumption)); clear S9; intro d9 h9 hs9 S))
section
variable {prog : Program} {w : World} {mean : ExcName → Option Value} {mg mb : Str → Option Value} {base : Heap} {A : Around} {s : Shared}
set_option maxHeartbeats 4000000
variable {K : Type} [DecidableEq K] {nm : K → Str}
noncomputable def RI (prog : Program) (w : World) (nm : K → Str) (V : View) (v : Value) (ps : List (K × Int)) : Prop := ∃ a, v = .ref a ∧ (a == sysModules) = false ∧ At V a (KI prog w nm ps)
noncomputable def isTab (prog : Program) (w : World) (nm : K → Str) (V : View) (v : Value) (tb : List (K × List (K × Int))) : Prop := ∃ d kd, v = .ref d ∧ (d == sysModules) = false ∧ At V d (PD prog w kd) ∧ KvR nm (RI prog w nm V) kd tb
theorem RI.sub {prog : Program} {w : World} {V V' : View} (k : Sub V V') (v : Value) (ps : List (K × Int)) (h : RI prog w nm V v ps) : RI prog w nm V' v ps := let ⟨a, e, hs, x⟩ := h; ⟨a, e, hs, x.sub k⟩
noncomputable def profStep {β : Type} (add : β → β → β) (nx : K → K) (lot : β) (tb : List (K × List (K × β))) (c : K) : List (K × List (K × β)) := putK tb (nx c) (addC add ((getK tb (nx c)).getD []) [(c, lot)])
noncomputable def profF {β : Type} (add : β → β → β) (nx : K → K) (cs : List K) (lots : List β) : List (K × List (K × β)) := lots.foldl (fun tb lot => cs.foldl (profStep add nx lot) tb) []
theorem putK_mem {β : Type} {tb : List (K × β)} {k : K} {v : β} {p : K × β} (h : p ∈ putK tb k v) : p ∈ tb ∨ p = (k, v) := by
  induction tb with
  | nil => exact .inr (List.mem_singleton.mp h)
  | cons q r ih =>
    simp only [putK] at h
    split at h
    · rcases List.mem_cons.mp h with h | h
      · exact .inr h
      · exact .inl (.tail _ h)
    · rcases List.mem_cons.mp h with h | h
      · exact .inl (h ▸ .head _)
      · exact (ih h).imp (.tail _) id
theorem getK_lenG {β : Type} {N : Nat} {tb : List (K × List β)} (h : ∀ p ∈ tb, p.2.length ≤ N) (c : K) : ((getK tb c).getD []).length ≤ N := by
  induction tb with
  | nil => simp [getK]
  | cons p r ih =>
    simp only [getK]
    split
    · exact h p (.head _)
    · exact ih fun q hq => h q (.tail _ hq)
theorem addC_len {β : Type} (add : β → β → β) (ps qs : List (K × β)) : (addC add ps qs).length ≤ ps.length + qs.length := by
  unfold addC
  refine Nat.le_trans (foldBump_length add qs _) ?_
  have := foldPut_length (fun _ (p : K × β) => p.1) (fun _ p => p.2) ps []
  simp at this
  omega
noncomputable def Small {β : Type} (N : Nat) (tb : List (K × List (K × β))) : Prop := tb.length ≤ N ∧ ∀ p ∈ tb, p.2.length ≤ N
theorem Small.step {β : Type} {N : Nat} {tb : List (K × List (K × β))} (h : Small N tb) (add : β → β → β) (nx : K → K) (lot : β) (c : K) : Small (N + 1) (profStep add nx lot tb c) := by
  refine ⟨Nat.le_trans (putK_length _ _ _) (by have := h.1; omega), fun p hp => ?_⟩
  rcases putK_mem hp with q | q
  · exact Nat.le_succ_of_le (h.2 p q)
  · rw [q]
    refine Nat.le_trans (addC_len _ _ _) ?_
    have := getK_lenG h.2 (nx c)
    simp; omega
theorem RI.get {prog : Program} {w : World} {O V : View} {kd : List (Str × Value)} {tb : List (K × List (K × Int))} (inj : ∀ a b, nm a = nm b → a = b) (hkv : KvR nm (RI prog w nm V) kd tb) (c : K) {d : Addr} (hd : (d == sysModules) = false) (hA : At V d (PD prog w [])) :
    ∃ a, (valueAt kd (nm c)).getD (.ref d) = .ref a ∧ (a == sysModules) = false ∧ At V a (KI prog w nm ((getK tb c).getD [])) := by
  rcases hkv.get inj c with ⟨e1, e2⟩ | ⟨v, l, e1, e2, a, rfl, hs, hx⟩
  · rw [e1, e2]; exact ⟨d, rfl, hd, hA.mono fun _ x => ⟨[], x, .nil⟩⟩
  · rw [e1, e2]; exact ⟨a, rfl, hs, hx⟩
theorem profile_c {g : Addr} {cs : List K} {gs : List (K × K)} {nx : K → K} {kvs : List (Str × Value)} {share : Int} {t : Tok} (C : Cx w mean mg mb base) (hb0 : Sub base.get? s.heap.get?) (R : Room A 2) (inj : ∀ a b, nm a = nm b → a = b) (hgs : (g == sysModules) = false) (hg : At s.heap.get? g (PD prog w kvs)) (hkv : KvR nm (isS nm) kvs gs) (hge : gs = cs.map fun c => (c, nx c)) (hgk : ∀ c ∈ cs, getK gs c = some (nx c)) (hz : cs.length ≤ 100) :
    Does prog w A (call (.ref 144) [.ref g, .int share t]) (fun V v => isTab prog w nm V v (profF (fun a b : Int => a + b) nx cs [share - 7, 7])) s := by
  refine' enter (binds := [("goes", .ref g), ("share", .int share t)]) (m := fun z => if z = "share" then some (.int share t) else if z = "goes" then some (.ref g) else none) (cv := fun _ => none) C hb0 R ?ho ?hcd ?hbind ?hkind ?hnd ?hm ?hc ?h ?c1 ?c2 ?c3
  walk_at "my_enter"
  intro L h₁ tk S
  have hb3 : s.heap.get? 3 ≠ none := by rw [hb0 _ _ (C.X _ _ (by k_is))]; simp
  walk_at "go"
  rename St _ _ _ _ _ _ _ _ => S
  rename (_ == sysModules) = false => htab
  obtain ⟨V1, S, hV1, hA1⟩ := S.freeze (pre := []) rfl
  refine src_tuple R.h S (.inr hA1) fun I fp wr Sti h X => ?_
  refine for_src X S rfl rfl rfl (fun i V m cv M => ∃ kd, M = [(_, PD prog w kd)] ∧ KvR nm (RI prog w nm V) kd (profF (fun a b : Int => a + b) nx cs ([share - 7, 7].take i)) ∧ Small (100 * i) (profF (fun a b : Int => a + b) nx cs ([share - 7, 7].take i)) ∧ m "table" = some (.ref _) ∧ m "goes" = some (.ref g)) ⟨[], rfl, .nil, ⟨Nat.le_refl _, fun _ h => nomatch h⟩, rfl, rfl⟩ ?turn ?done
  case done =>
    rintro V' m' cv' M' h tk hV ⟨kd, rfl, h1, h2, h3, h4⟩ S
    clear X
    walk_at "go"
    rename St _ _ _ _ _ _ _ _ => S
    exact ⟨_, kd, rfl, htab, S.newM (Sub.refl _) (.head _), h1.mono (RI.sub (S.new (Sub.refl _)))⟩
  rintro i v V' m' cv' M' hb h tk hi hv hV ⟨kd, rfl, h1, h2, h3, h4⟩ S
  clear X
  obtain ⟨lot, tl, rfl, hlot⟩ : ∃ lot tl, v = .int lot tl ∧ [share - 7, 7][i]? = some lot := by
    have hi2 : i = 0 ∨ i = 1 := by simp at hi; omega
    rcases hi2 with h | h <;> subst h <;> cases hv <;> exact ⟨_, _, rfl, rfl⟩
  have hpf : profF (fun a b : Int => a + b) nx cs ([share - 7, 7].take (i + 1)) = cs.foldl (profStep (fun a b : Int => a + b) nx lot) (profF (fun a b : Int => a + b) nx cs ([share - 7, 7].take i)) := by
    unfold profF; exact fold_take _ _ _ hlot
  generalize hT : profF (fun a b : Int => a + b) nx cs ([share - 7, 7].take i) = T at h1 h2 hpf
  walk_at "go"
  rename St _ _ _ _ _ _ _ _ => S
  have hkl : kvs.length = cs.length := by rw [hkv.length, hge, List.length_map]
  refine src_keys R.h S hgs (.inl hg) fun I fp wr2 Sti h X => ?_
  refine for_src X S rfl rfl rfl (fun j V m cv M => ∃ kd, M = own hb wr ++ [(_, PD prog w kd)] ∧ KvR nm (RI prog w nm V) kd ((cs.take j).foldl (profStep (fun a b : Int => a + b) nx lot) T) ∧ Small (100 * i + j) ((cs.take j).foldl (profStep (fun a b : Int => a + b) nx lot) T) ∧ m "table" = some (.ref _) ∧ m "goes" = some (.ref g) ∧ m "lot" = some (.int lot tl)) ⟨kd, rfl, h1, h2, h3, h4, rfl⟩ ?turn2 ?done2
  case done2 =>
    rintro V2 m2 cv2 M2 h tk hV2 ⟨kd, rfl, g1, g2, g3, g4, g5⟩ S
    clear X
    rw [hkl, List.take_length] at g1 g2
    walk_at "go"
    rename St _ _ _ _ _ _ _ _ => S
    refine Turned.go S hV2 ⟨kd, rfl, by rw [hpf]; exact g1, by rw [hpf]; exact ⟨by have := g2.1; omega, fun p hp => by have := g2.2 p hp; omega⟩, g3, g4⟩
  rintro j v V2 m2 cv2 M2 hb2 h tk hj ⟨kk, xv, hkx, hkey⟩ hV2 ⟨kd, rfl, g1, g2, g3, g4, g5⟩ S
  clear X
  obtain ⟨c, c', hcj, rfl, _⟩ := hkv.at hkx
  rw [hge, List.getElem?_map] at hcj
  obtain ⟨c0, hc0, e0⟩ := Option.map_eq_some_iff.mp hcj
  obtain ⟨rfl, _⟩ : c0 = c ∧ nx c0 = c' := Prod.mk.inj e0
  obtain ⟨tw, rfl⟩ := str_key hkey
  have hmem := hgk c0 (List.mem_of_getElem? hc0)
  obtain ⟨tn, hvn⟩ : ∃ tn, valueAt kvs (nm c0) = some (.str (nm (nx c0)) tn) := by
    rcases hkv.get inj c0 with ⟨_, e2⟩ | ⟨v3, c3, e1, e2, t3, rfl⟩
    · rw [hmem] at e2; cases e2
    · rw [hmem] at e2; cases e2; exact ⟨t3, e1⟩
  walk_at "go"
  rename St _ _ _ _ _ _ _ _ => S
  refine dTailN (S.getO hg) hvn ?_
  walk_at "go"
  rename St _ _ _ _ _ _ _ _ => S
  rename (_ == sysModules) = false => hone
  revert hone
  rename (_ == sysModules) = false => hdef
  intro hone
  refine OneP.go S fun h' k' S => ?_
  obtain ⟨V3, S, hV3, hA3⟩ := S.freeze (pre := []) rfl
  obtain ⟨V4, S, hV4, hA4⟩ := S.freeze (pre := []) rfl
  have g1' := g1.mono (RI.sub (prog := prog) (w := w) (nm := nm) (hV3.trans hV4))
  obtain ⟨a3, he3, hs3, ho3⟩ := RI.get (O := V4) inj g1' (nx c0) hdef hA4
  have hone2 : At V4 _ (KI prog w nm [(c0, lot)]) := (hA3.sub hV4).mono fun _ x => ⟨_, x, .cons ⟨tl, rfl⟩ .nil⟩
  have hlen3 := getK_lenG g2.2 (nx c0)
  rw [he3]
  walk_at "go"
  rename St _ _ _ _ _ _ _ _ => S
  refine use (add_callers_c (ps := (getK ((cs.take j).foldl (profStep (fun a b : Int => a + b) nx lot) T) (nx c0)).getD []) (qs := [(c0, lot)]) C (hb0.trans S.keepO) R.deeper inj hs3 hone (S.getV ho3) (S.getV hone2) (by simp at hi; simp; omega)) S ?_
  rintro v h' tk V5 hV5 S ⟨F, hF, a5, rfl, hs5, hA5⟩
  walk_at "go"
  rename St _ _ _ _ _ _ _ _ => S
  have hnd : (kd.map (·.1)).Nodup := by
    obtain ⟨_, _, q⟩ := S.getM (P := PD prog w kd) (by walk_at "mem9")
    exact q.nodup
  refine dSet (P := PD prog w kd) (pre := own hb2 wr2 ++ own hb wr) (post := []) S (by simp) (fun _ x => x) (fun h' S => ?_) (by rw [sizeLine_eq, g1.length]; have := g2.1; simp at hi; omega)
  rw [List.append_assoc] at S
  walk_at "go"
  rename St _ _ _ _ _ _ _ _ => S
  have htk : (cs.take (j + 1)).foldl (profStep (fun a b : Int => a + b) nx lot) T = profStep (fun a b : Int => a + b) nx lot ((cs.take j).foldl (profStep (fun a b : Int => a + b) nx lot) T) c0 := fold_take _ _ _ hc0
  refine Turned.go S (hV3.trans (hV4.trans hV5)) ⟨_, rfl, ?_, ?_, g3, g4, g5⟩
  · rw [htk]
    refine (g1'.mono (RI.sub hV5)).put inj hnd (nx c0) ⟨a5, rfl, hs5, hA5.sub hF⟩
  · rw [htk]
    exact g2.step _ _ _ _
end
-- TabL
section
variable {K : Type} [DecidableEq K] {nm : K → Str} {prog : Program} {w : World} {share : Int}
noncomputable abbrev KU (prog : Program) (w : World) (nm : K → Str) (share : Int) (l : List K) : Obj → Prop := KI prog w nm (l.map fun c => (c, share))
/-- a dict's values are dicts of the ledger -/
inductive TabL (prog : Program) (w : World) (nm : K → Str) (share : Int) : List (Str × Value) → Led → List (K × List K) → Prop
  | nil : TabL prog w nm share [] [] []
  | cons {c : K} {a : Addr} {l : List K} {kvs : List (Str × Value)} {M : Led} {tb : List (K × List K)} : (a == sysModules) = false → TabL prog w nm share kvs M tb → TabL prog w nm share ((nm c, .ref a) :: kvs) ((a, KU prog w nm share l) :: M) ((c, l) :: tb)
theorem TabL.length {kvs : List (Str × Value)} {M : Led} {tb : List (K × List K)} (x : TabL prog w nm share kvs M tb) : kvs.length = tb.length := by
  induction x with
  | nil => rfl
  | cons _ _ ih => rw [List.length_cons, List.length_cons, ih]
theorem TabL.get {kvs : List (Str × Value)} {M : Led} {tb : List (K × List K)} (inj : ∀ a b, nm a = nm b → a = b) (x : TabL prog w nm share kvs M tb) (c : K) :
    (valueAt kvs (nm c) = none ∧ getK tb c = none) ∨ ∃ a l pre post, valueAt kvs (nm c) = some (.ref a) ∧ getK tb c = some l ∧ (a == sysModules) = false ∧ M = pre ++ (a, KU prog w nm share l) :: post ∧ ∀ l', TabL prog w nm share kvs (pre ++ (a, KU prog w nm share l') :: post) (putK tb c l') := by
  induction x with
  | nil => exact .inl ⟨rfl, rfl⟩
  | @cons c' a l kvs M tb hs x ih =>
    by_cases q : c' = c
    · subst q
      refine .inr ⟨a, l, [], M, by simp [valueAt], by simp [getK], hs, rfl, fun l' => ?_⟩
      simp only [putK, if_true]
      exact .cons hs x
    · have q' : nm c' ≠ nm c := fun e => q (inj _ _ e)
      rcases ih with ⟨e1, e2⟩ | ⟨a', l2, pre, post, e1, e2, e3, e4, e5⟩
      · left; exact ⟨by simpa [valueAt, List.find?_cons, q'] using e1, by simpa [getK, q] using e2⟩
      · right
        refine ⟨a', l2, (a, KU prog w nm share l) :: pre, post, by simpa [valueAt, List.find?_cons, q'] using e1, by simpa [getK, q] using e2, e3, by rw [e4]; rfl, fun l' => ?_⟩
        simp only [putK, if_neg q]
        exact .cons hs (e5 l')
theorem TabL.snoc {kvs : List (Str × Value)} {M : Led} {tb : List (K × List K)} (x : TabL prog w nm share kvs M tb) (c : K) {a : Addr} (hs : (a == sysModules) = false) (l : List K) :
    TabL prog w nm share (kvs ++ [(nm c, .ref a)]) (M ++ [(a, KU prog w nm share l)]) (tb ++ [(c, l)]) := by
  induction x with
  | nil => exact .cons hs .nil
  | cons h _ ih => exact .cons h ih
theorem TabL.rt {V : View} {kvs : List (Str × Value)} {M : Led} {tb : List (K × List K)} (x : TabL prog w nm share kvs M tb) (h : ∀ q ∈ M, At V q.1 q.2) : KvR nm (RT prog w nm V share) kvs tb := by
  induction x with
  | nil => exact .nil
  | cons hs _ ih => exact .cons ⟨_, rfl, hs, h _ (.head _)⟩ (ih fun q hq => h q (.tail _ hq))
theorem putK_none {β : Type} {tb : List (K × β)} {c : K} {l : β} (h : getK tb c = none) : putK tb c l = tb ++ [(c, l)] := by
  induction tb with
  | nil => rfl
  | cons p r ih =>
    simp only [getK] at h
    split at h
    · cases h
    · rename_i q; simp only [putK, if_neg q, ih h]; rfl
noncomputable def tabD {β : Type} (tb : List (K × List β)) (c : K) : List (K × List β) := match getK tb c with | some _ => tb | none => tb ++ [(c, [])]
theorem getK_snoc {β : Type} {tb : List (K × β)} {c : K} {l : β} (h : getK tb c = none) : getK (tb ++ [(c, l)]) c = some l := by
  induction tb with
  | nil => simp [getK]
  | cons p r ih =>
    simp only [getK] at h
    split at h
    · cases h
    · rename_i q; simp only [List.cons_append, getK, if_neg q]; exact ih h
theorem putK_snoc {β : Type} {tb : List (K × β)} {c : K} {l x : β} (h : getK tb c = none) : putK (tb ++ [(c, l)]) c x = putK tb c x := by
  induction tb with
  | nil => simp [putK]
  | cons p r ih =>
    simp only [getK] at h
    split at h
    · cases h
    · rename_i q; simp only [List.cons_append, putK, if_neg q]; rw [ih h]
theorem tabD_get {β : Type} (tb : List (K × List β)) (c : K) : getK (tabD tb c) c = some ((getK tb c).getD []) := by
  unfold tabD
  cases h : getK tb c with
  | some l => simp only [h]; rfl
  | none => simp only; rw [getK_snoc h]; rfl
theorem tabD_put {β : Type} (tb : List (K × List β)) (c : K) (x : List β) : putK (tabD tb c) c x = putK tb c x := by
  unfold tabD
  cases h : getK tb c with
  | some l => rfl
  | none => exact putK_snoc h
theorem stored_none {kvs : List (Str × Value)} {k : Str} {v : Value} (h : valueAt kvs k = none) : stored kvs k v = kvs ++ [(k, v)] := by
  have : (kvs.any fun kv => decide (kv.1 = k)) = false := by
    rw [List.any_eq_false]
    intro p hp e
    unfold valueAt at h
    have h' := Option.map_eq_none_iff.mp h
    exact (List.find?_eq_none.mp h') p hp (by simpa using e)
  unfold stored
  rw [if_neg (by rw [this]; simp)]
theorem stored_same {kvs : List (Str × Value)} {k : Str} {v : Value} (hn : (kvs.map (·.1)).Nodup) (h : valueAt kvs k = some v) : stored kvs k v = kvs := by
  induction kvs with
  | nil => cases h
  | cons p r ih =>
    obtain ⟨k', v'⟩ := p
    rw [stored_cons _ _ _ _ _ hn]
    by_cases q : k' = k
    · subst q
      have : v' = v := by simpa [valueAt] using h
      rw [if_pos rfl, this]
    · rw [if_neg q, ih (List.nodup_cons.mp hn).2 (by simpa [valueAt, List.find?_cons, q] using h)]
end
section
variable {K : Type} [DecidableEq K] {nm : K → Str} {prog : Program} {w : World} {A : Around} {E : Value → Shared → Prop} {s : Shared} {O V : View} {L : Addr} {m : Str → Option Value} {cl : List (Str × Addr)} {cv : Str → Option Value} {M M' : Led} {h : Heap}
theorem St.perm (S : St O V L m cl cv M h) (p : M.Perm M') : St O V L m cl cv M' h :=
  ⟨S.ns, S.keepO, S.keepV, S.apart, S.off, S.cell, S.coff, S.cinj, fun q hq => S.led q (p.mem_iff.mpr hq), fun q hq => S.moff q (p.mem_iff.mpr hq), (p.map (·.1)).nodup_iff.mp S.nd⟩
/-- the same ledger, one entry told otherwise -/
theorem St.tell (S : St O V L m cl cv M h) {pre post : Led} {a : Addr} {P P' : Obj → Prop} (hM : M = pre ++ (a, P) :: post) (k : ∀ o, P o → P' o) : St O V L m cl cv (pre ++ (a, P') :: post) h :=
  S.turn hM ((S.getM (a := a) (P := P) (hM ▸ List.mem_append_right _ (.head _))).mono k) (Heap.SameBut.refl a h)
theorem dSetK {Q : Unit → Shared → Prop} {pre post : Led} {a : Addr} {ps : List (K × Int)} {c : K} {tk t : Tok} {x : Int} (inj : ∀ a b, nm a = nm b → a = b) (S : St O V L m cl cv M s.heap) (hM : M = pre ++ (a, KI prog w nm ps) :: post) (hsz : ps.length ≤ 100000)
    (h : ∀ h', St O V L m cl cv (pre ++ (a, KI prog w nm (putK ps c x)) :: post) h' → Q () { s with heap := h', toks := s.toks + 1 }) : wpAny (model prog w) A (setItem (.ref a) (.str (nm c) tk) (.int x t)) Q E s := by
  obtain ⟨o, ho, kvs, hk, hkv⟩ := S.getM (a := a) (P := KI prog w nm ps) (hM ▸ List.mem_append_right _ (.head _))
  refine wpAny_setItem_pairs (hsz := by rw [hkv.length, sizeLine_eq]; omega) (strKind_is prog w (nm c) tk) (PD.dictOf ⟨o, ho, hk⟩) fun h' hm hs => h h' ?_
  obtain ⟨o', ho', hk'⟩ := Heap.dictOf_iff.mp hm
  exact S.turn hM ⟨o', ho', _, hk', hkv.put inj hk.nodup c ⟨t, rfl⟩⟩ hs
/-- due[k] = due.get(k, {}), the store -/
theorem setD9 {Q : Unit → Shared → Prop} {front Mi : Led} {share : Int} {due d : Addr} {kd : List (Str × Value)} {tb : List (K × List K)} {c : K} {tk : Tok} (inj : ∀ a b, nm a = nm b → a = b) (hd : (d == sysModules) = false)
    (S : St O V L m cl cv ((d, PD prog w []) :: (front ++ ((due, PD prog w kd) :: Mi))) s.heap) (T : TabL prog w nm share kd Mi tb) (hsz : kd.length ≤ 100000)
    (h : ∀ h' kd' Mi', St O V L m cl cv (front ++ ((due, PD prog w kd') :: Mi')) h' → TabL prog w nm share kd' Mi' (tabD tb c) → Q () { s with heap := h', toks := s.toks + 1 }) :
    wpAny (model prog w) A (setItem (.ref due) (.str (nm c) tk) ((valueAt kd (nm c)).getD (.ref d))) Q E s := by
  have hz : kd.length ≤ sizeLine := by rw [sizeLine_eq]; omega
  have hnd : (kd.map (·.1)).Nodup := by
    obtain ⟨_, _, q⟩ := S.getM (a := due) (P := PD prog w kd) (.tail _ (List.mem_append_right _ (.head _)))
    exact q.nodup
  rcases T.get inj c with ⟨e1, e2⟩ | ⟨a, l, pre, post, e1, e2, e3, e4, e5⟩
  · rw [e1]
    refine dSet (P := PD prog w kd) (pre := (d, PD prog w []) :: front) (post := Mi) S rfl (fun _ x => x) (fun h' S => ?_) hz
    rw [stored_none e1] at S
    have S1 := S.tell (pre := []) (P' := KU prog w nm share []) rfl (fun o x => ⟨[], x, .nil⟩)
    refine h h' (kd ++ [(nm c, .ref d)]) (Mi ++ [(d, KU prog w nm share [])]) (S1.perm ?_) ?_
    · have e9 : front ++ ((due, PD prog w (kd ++ [(nm c, Value.ref d)])) :: (Mi ++ [(d, KU prog w nm share [])])) = (front ++ ((due, PD prog w (kd ++ [(nm c, Value.ref d)])) :: Mi)) ++ [(d, KU prog w nm share [])] := by simp
      rw [e9]
      exact (List.perm_append_comm (l₁ := [(d, KU prog w nm share [])]))
    · have := T.snoc c hd []
      unfold tabD
      rw [e2]
      exact this
  · rw [e1]
    refine dSet (P := PD prog w kd) (pre := (d, PD prog w []) :: front) (post := Mi) S rfl (fun _ x => x) (fun h' S => ?_) hz
    rw [stored_same hnd (by rw [e1]; rfl)] at S
    refine h h' kd Mi S.tail ?_
    unfold tabD
    rw [e2]
    exact T
end
-- Fn13
section
variable {prog : Program} {w : World} {mean : ExcName → Option Value} {mg mb : Str → Option Value} {base : Heap} {A : Around} {s : Shared}
set_option maxHeartbeats 4000000
variable {nm : Nat → Str}
noncomputable def valN (ts : List Int) (more : Int) (p c : Nat) : Int := valP more ts (fun i => ((digN p c i : Nat) : Int)) ts.length
noncomputable def nxN (ts : List Int) (more : Int) (p c : Nat) : Nat := c / p + ((valN ts more p c).fmod (p : Int)).toNat * p ^ (ts.length - 1)
noncomputable def plainS (nx : Nat → Nat) (tb : List (Nat × List Nat)) (c : Nat) : List (Nat × List Nat) := putK tb (nx c) (putU ((getK tb (nx c)).getD []) c)
noncomputable def plainF (nx : Nat → Nat) (cs : List Nat) : List (Nat × List Nat) := cs.foldl (plainS nx) []
noncomputable def isTabP (prog : Program) (w : World) (nm : Nat → Str) (share : Int) (V : View) (v : Value) (tb : List (Nat × List Nat)) : Prop := ∃ d kd, v = .ref d ∧ (d == sysModules) = false ∧ At V d (PD prog w kd) ∧ KvR nm (RT prog w nm V share) kd tb
theorem plainF_len (nx : Nat → Nat) (cs : List Nat) : (plainF nx cs).length ≤ cs.length := by
  have key : ∀ (cs : List Nat) (tb : List (Nat × List Nat)), (cs.foldl (plainS nx) tb).length ≤ tb.length + cs.length := by
    intro cs
    induction cs with
    | nil => intro tb; simp
    | cons a r ih =>
      intro tb
      rw [List.foldl_cons, List.length_cons]
      have h1 := ih (plainS nx tb a)
      have h2 : (plainS nx tb a).length ≤ tb.length + 1 := putK_length _ _ _
      omega
  simpa [plainF] using key cs []
theorem plainF_small (nx : Nat → Nat) (cs : List Nat) (i : Nat) : ∀ p ∈ plainF nx (cs.take i), p.2.length ≤ cs.length := by
  have key : ∀ (cs : List Nat) (tb : List (Nat × List Nat)) (k : Nat), (∀ p ∈ tb, p.2.length ≤ k) → ∀ p ∈ cs.foldl (plainS nx) tb, p.2.length ≤ k + cs.length := by
    intro cs
    induction cs with
    | nil => intro tb k h; simpa using h
    | cons a r ih =>
      intro tb k h p hp
      rw [List.foldl_cons] at hp
      have := ih (plainS nx tb a) (k + 1) (fun p hp => ?_) p hp
      · rw [List.length_cons]; omega
      · rcases putK_mem hp with q | q
        · exact Nat.le_succ_of_le (h p q)
        · rw [q]
          have h1 := getK_lenG h (nx a)
          have h2 : (putU ((getK tb (nx a)).getD []) a).length ≤ ((getK tb (nx a)).getD []).length + 1 := by
            unfold putU
            split
            · omega
            · simp
          show (putU _ _).length ≤ _
          omega
  intro p hp
  have := key (cs.take i) [] 0 (fun _ h => nomatch h) p hp
  rw [List.length_take] at this
  omega
theorem plain_c {wl tl : Addr} {N p : Nat} {ts : List Int} {more share : Int} {t t1 t2 : Tok} (C : Cx w mean mg mb base) (hb0 : Sub base.get? s.heap.get?) (R : Room A 1) (inj : ∀ a b, nm a = nm b → a = b) (hw : At s.heap.get? wl (LS ((List.range N).map nm))) (hl : At s.heap.get? tl (LI ts)) (hN : N ≤ 100) (hp : 2 ≤ p) (hp2 : p ≤ 10) (hn1 : 1 ≤ ts.length) (hn2 : ts.length ≤ 8) (hmo : more.natAbs < 2 ^ 20) (hts : ∀ c ∈ ts, c.natAbs < 2 ^ 20) (hcl : ∀ c, c < N → nxN ts more p c < N) :
    Does prog w A (call (.ref 151) [.ref wl, .ref tl, .int more t, .int p t1, .int share t2]) (fun V v => isTabP prog w nm share V v (plainF (nxN ts more p) (List.range N))) s := by
  refine' enter (binds := [("windows", .ref wl), ("taps", .ref tl), ("more", .int more t), ("prime", .int p t1), ("share", .int share t2)]) (m := fun z => if z = "share" then some (.int share t2) else if z = "prime" then some (.int p t1) else if z = "more" then some (.int more t) else if z = "taps" then some (.ref tl) else if z = "windows" then some (.ref wl) else none) (cv := fun _ => none) C hb0 R ?ho ?hcd ?hbind ?hkind ?hnd ?hm ?hc ?h ?c1 ?c2 ?c3
  walk_at "my_enter"
  intro L h₁ tk S
  have hb3 : s.heap.get? 3 ≠ none := by rw [hb0 _ _ (C.X _ _ (by k_is))]; simp
  obtain ⟨wvs, hwp, hwi, hwl⟩ := LS.pick hw
  rw [List.length_map, List.length_range] at hwl
  obtain ⟨tvs, htp, hti, htl⟩ := ints_len hl
  walk_at "go"
  rename St _ _ _ _ _ _ _ _ => S
  rename (_ == sysModules) = false => hdue
  refine lenL9 (Old.at (.inl hwp) S) hwl (by omega) ?_
  intro _ _
  walk_at "go"
  rename St _ _ _ _ _ _ _ _ => S
  rename IsRange _ _ _ _ _ _ _ _ => hr9
  refine src_rng R.h S hr9 (by omega) fun I fp wr Sti h X => ?_
  refine for_src X S rfl rfl rfl (fun i V m cv M => ∃ kd Mi, M = (_, PD prog w kd) :: Mi ∧ TabL prog w nm share kd Mi (plainF (nxN ts more p) ((List.range N).take i)) ∧ m "due" = some (.ref _) ∧ m "windows" = some (.ref wl) ∧ m "taps" = some (.ref tl) ∧ m "more" = some (.int more t) ∧ m "prime" = some (.int p t1) ∧ m "share" = some (.int share t2)) ⟨[], [], rfl, .nil, rfl, rfl, rfl, rfl, rfl, rfl⟩ ?turn ?done
  case done =>
    rintro V' m' cv' M' h tk hV ⟨kd, Mi, rfl, h1, h2, h3, h4, h5, h6, h7⟩ S
    clear X
    rw [List.take_of_length_le (by simp)] at h1
    walk_at "go"
    rename St _ _ _ _ _ _ _ _ => S
    refine ⟨_, kd, rfl, hdue, S.newM (Sub.refl _) (.head _), h1.rt fun q hq => ?_⟩
    exact S.newM (Sub.refl _) (.tail _ hq)
  rintro i v V' m' cv' M' hb h tk hi ⟨ti, rfl⟩ hV ⟨kd, Mi, rfl, h1, h2, h3, h4, h5, h6, h7⟩ S
  clear X
  walk_at "go"
  rename St _ _ _ _ _ _ _ _ => S
  refine lenL9 (Old.at (.inl htp) S) htl (by omega) ?_
  intro _ _
  walk_at "go"
  rename St _ _ _ _ _ _ _ _ => S
  rename IsRange _ _ _ _ _ _ _ _ => hr9
  refine src_rng R.h S hr9 (by omega) fun I fp wr2 Sti h X => ?_
  refine for_src X S rfl rfl rfl (fun j V m cv M => M = own hb wr ++ ((_, PD prog w kd) :: Mi) ∧ (∃ t, m "value" = some (.int (valP more ts (fun i' => ((digN p i i' : Nat) : Int)) j) t)) ∧ (∃ t, m "code" = some (.int (i : Int) t)) ∧ m "due" = some (.ref _) ∧ m "windows" = some (.ref wl) ∧ m "taps" = some (.ref tl) ∧ m "more" = some (.int more t) ∧ m "prime" = some (.int p t1) ∧ m "share" = some (.int share t2)) ⟨rfl, ⟨_, rfl⟩, ⟨_, rfl⟩, h2, h3, h4, h5, h6, h7⟩ ?turn2 ?done2
  case turn2 =>
    rintro j v V2 m2 cv2 M2 hb2 h tk hj ⟨tj, rfl⟩ hV2 ⟨rfl, ⟨tv, g1⟩, ⟨tc, g2⟩, g3, g4, g5, g6, g7, g8⟩ S
    clear X
    have hx : ts[((j : Nat) : Int).toNat]? = some (ts.getD j 0) := by simp [hj, List.getD_eq_getElem?_getD]
    have hxb : (ts.getD j 0).natAbs < 2 ^ 20 := hts _ (List.mem_of_getElem? hx)
    have hp0 : 0 < p ^ j := Nat.pow_pos (by omega)
    have hp8 : p ^ j ≤ 10 ^ 8 := Nat.le_trans (Nat.pow_le_pow_left hp2 _) (Nat.pow_le_pow_right (by decide) (by omega))
    have hcast : ((p : Int) ^ ((j : Nat) : Int).toNat) = ((p ^ j : Nat) : Int) := by rw [Int.toNat_natCast]; push_cast; rfl
    have hdig : ((i : Int).fdiv ((p ^ j : Nat) : Int)).fmod (p : Int) = ((digN p i j : Nat) : Int) := by
      unfold digN
      rw [Int.fdiv_eq_ediv_of_nonneg _ (by omega), Int.fmod_eq_emod_of_nonneg _ (by omega)]
      push_cast; rfl
    have hpi : (p : Int) ≠ 0 := by omega
    walk_at "go"
    rename St _ _ _ _ _ _ _ _ => S
    refine itemI9 (S.getO hl) (by omega) (by omega) hx ?_
    intro tx
    have hval : valP more ts (fun i' => ((digN p i i' : Nat) : Int)) (j + 1) = valP more ts (fun i' => ((digN p i i' : Nat) : Int)) j + ts.getD j 0 * (((i : Int).fdiv ((p : Int) ^ ((j : Nat) : Int).toNat)).fmod (p : Int)) := by rw [hcast, hdig]; rfl
    walk_at "go"
    rename St _ _ _ _ _ _ _ _ => S
    exact Turned.go S (Sub.refl _) ⟨rfl, ⟨_, by rw [hval]; rfl⟩, ⟨_, g2⟩, g3, g4, g5, g6, g7, g8⟩
  rintro V2 m2 cv2 M2 h tk hV2 ⟨rfl, ⟨tv, g1⟩, ⟨tc, g2⟩, g3, g4, g5, g6, g7, g8⟩ S
  clear X
  have hm0 : 0 ≤ (valN ts more p i).fmod (p : Int) := Int.fmod_nonneg_of_pos _ (by omega)
  have hm1 : (valN ts more p i).fmod (p : Int) < p := Int.fmod_lt_of_pos _ (by omega)
  have hX : (i : Int).fdiv (p : Int) + (valN ts more p i).fmod (p : Int) * (p : Int) ^ ((ts.length : Int) - 1).toNat = ((nxN ts more p i : Nat) : Int) := by
    have e1 : ((ts.length : Int) - 1).toNat = ts.length - 1 := by omega
    unfold nxN
    rw [e1, Int.fdiv_eq_ediv_of_nonneg _ (by omega)]
    push_cast
    rw [Int.toNat_of_nonneg hm0]
  have hnx := hcl i hi
  have hwx : ((List.range N).map nm)[(((nxN ts more p i : Nat) : Int)).toNat]? = some (nm (nxN ts more p i)) := by
    rw [Int.toNat_natCast, List.getElem?_map, List.getElem?_range hnx]; rfl
  have hwc : ((List.range N).map nm)[((i : Nat) : Int).toNat]? = some (nm i) := by
    rw [Int.toNat_natCast, List.getElem?_map, List.getElem?_range hi]; rfl
  have hpi : (p : Int) ≠ 0 := by omega
  have hpn : ((p : Int)).natAbs < 1073741824 := by omega
  change m2 "value" = some (.int (valN ts more p i) tv) at g1
  have hmb : ((valN ts more p i).fmod (p : Int)).natAbs < 1000 := by omega
  generalize hVN : (valN ts more p i).fmod (p : Int) = vm at hX hmb
  walk_at "go"
  rename St _ _ _ _ _ _ _ _ => S
  refine lenL9 (Old.at (.inl htp) S) htl (by omega) ?_
  intro _ _
  rw [hVN]
  walk_at "go"
  rename St _ _ _ _ _ _ _ _ => S
  rw [hX]
  refine itemS9 (S.getO hw) (by omega) (by omega) hwx ?_
  intro tn
  walk_at "go"
  rename St _ _ _ _ _ _ _ _ => S
  rename (_ == sysModules) = false => hnew
  have hpl := plainF_len (nxN ts more p) ((List.range N).take i)
  rw [List.length_take] at hpl
  refine setD9 (front := own hb wr) inj hnew S h1 (by rw [h1.length]; omega) (fun h' kd' Mi' S T => ?_)
  clear hnew
  walk_at "go"
  rename St _ _ _ _ _ _ _ _ => S
  rcases T.get inj (nxN ts more p i) with ⟨_, e2⟩ | ⟨a, l, pre, post, e1, e2, e3, e4, e5⟩
  · rw [tabD_get] at e2; cases e2
  rw [tabD_get] at e2
  have hl9 : l.length ≤ 100000 := by
    have h9 := getK_lenG (plainF_small (nxN ts more p) (List.range N) i) (nxN ts more p i)
    rw [List.length_range] at h9
    rw [Option.some.inj e2] at h9
    omega
  refine dTailN (S.getM (P := PD prog w kd') (List.mem_append_right _ (.head _))) e1 ?_
  walk_at "go"
  rename St _ _ _ _ _ _ _ _ => S
  refine itemS9 (S.getO hw) (by omega) (by omega) hwc ?_
  intro tc2
  walk_at "go"
  rename St _ _ _ _ _ _ _ _ => S
  refine dSetK (pre := own hb wr ++ ((_, PD prog w kd') :: pre)) (post := post) (ps := l.map fun c => (c, share)) inj S (by rw [e4, List.append_assoc]; rfl) (by rw [List.length_map]; exact hl9) (fun h'' S => ?_)
  rw [putK_putU, List.append_assoc] at S
  have hstep : plainF (nxN ts more p) ((List.range N).take (i + 1)) = putK (plainF (nxN ts more p) ((List.range N).take i)) (nxN ts more p i) (putU l i) := by
    unfold plainF
    rw [fold_take _ _ _ (List.getElem?_range hi)]
    show putK _ _ (putU _ _) = _
    rw [← Option.some.inj e2]; rfl
  walk_at "go"
  rename St _ _ _ _ _ _ _ _ => S
  refine Turned.go S hV2 ⟨kd', _, rfl, ?_, g3, g4, g5, g6, g7, g8⟩
  rw [hstep, ← tabD_put]
  exact e5 _
end
-- DcS
section
variable {prog : Program} {w : World} {A : Around} {s s₁ : Shared} {env : Env} {O V : View} {m : Str → Option Value} {cl cl' : List (Str × Addr)} {cv : Str → Option Value} {M : Led}
  {I : Addr} {fp wr : List Addr} {n : Nat} {P : Nat → Value → Prop} {Sti : Nat → Heap → Prop}
/-- the ledger within a dict comprehension -/
noncomputable abbrev cMD (prog : Program) (w : World) (env : Env) (m : Str → Option Value) (D : Addr) (kvs : List (Str × Value)) (hb : Heap) (wr : List Addr) (M : Led) : Led := own hb wr ++ ((env.locals, PN m) :: (D, PD prog w kvs) :: M)
noncomputable abbrev InvD := Nat → View → List (Str × Value) → Prop
noncomputable def EltD (O V : View) (C : Addr) (cl : List (Str × Addr)) (cv : Str → Option Value) (MM : Led) (prog : Program) (w : World) (kv vv : Value) (J : Str → View → Prop) (s s' : Shared) : Prop :=
  ∃ k t, kv = .str k t ∧ Elt O V C cl cv MM (J k) s s'

theorem dcLoop_name {kx vx iter : Expr} {x : Str} {px : Pos} {ifs : List Expr} {scope : Scope} {pos : Pos} {D C : Addr} {cenv : Env} {mC : Str → Option Value} {R : Result → Shared → Prop} (W : Walks prog w A I fp wr n P Sti)
    (hx : cenv.kindOf x = some .local) (hk : cenv.scope.kind = .function) (hC : cenv.locals = C) (hsz : n ≤ sizeLine) (hnd : wr.Nodup) (hst : Sti 0 s.heap) (hlive : ∀ i h, Sti i h → ∀ b ∈ wr, ∃ o, h.get? b = some o)
    (hfp : ∀ b ∈ fp, b ∈ wr ∨ (∃ o, O b = some o) ∨ ∃ o, V b = some o)
    (S : St O V C mC cl cv (cMD prog w env m D [] s.heap wr M) s.heap) (J : InvD) (h0 : J 0 V [])
    (turn : ∀ i v V' kvs (mC : Str → Option Value) hb h tk, i < n → P i v → Sub V V' → J i V' kvs → St O V' C (fun y => if y = x then some v else mC y) cl cv (cMD prog w env m D kvs hb wr M) h →
      wpAny (model prog w) A (tests ifs cenv) (fun ok s₃ => if ok = true then wpAny (model prog w) A (eval kx cenv) (fun kv s₄ => wpAny (model prog w) A (eval vx cenv) (fun vv s₅ =>
          EltD O V' C cl cv (cMD prog w env m D kvs hb wr M) prog w kv vv (fun k V'' => J (i + 1) V'' (stored kvs k vv)) s s₅) (fun _ _ => False) s₄) (fun _ _ => False) s₃
        else Elt O V' C cl cv (cMD prog w env m D kvs hb wr M) (fun V'' => J (i + 1) V'' kvs) s s₃) (fun _ _ => False) { s with heap := h, toks := tk })
    (done : ∀ V' kvs (mC : Str → Option Value) h tk, Sub V V' → J n V' kvs → St O V' C mC cl cv ((env.locals, PN m) :: (D, PD prog w kvs) :: M) h → R (.ok .next) { s with heap := h, toks := tk }) :
    codeAny (model prog w) A (.compLoop (.DictComp kx vx [⟨.Name x px, iter, ifs, 0⟩] scope pos) 0 (.ref I) (.ref D) cenv) R s := by
  subst hC
  refine codeAny_compLoop_testsD
    (fun k s' => ∃ V' mC' kvs hb tk i, s' = { s with heap := hb, toks := tk } ∧ Sti i hb ∧ Sub V V' ∧ St O V' cenv.locals mC' cl cv (cMD prog w env m D kvs hb wr M) hb ∧ J i V' kvs ∧ i ≤ n ∧ kvs.length ≤ i ∧ k = n + 1 - i) ?_ (n + 1)
    ⟨V, mC, [], s.heap, s.toks, 0, rfl, hst, Sub.refl _, S, h0, Nat.zero_le _, Nat.zero_le _, rfl⟩
  rintro k' s' ⟨V', mC', kvs, hb, tk, i, rfl, hst', hV, S', hJ, hi, hys, rfl⟩
  have SD := S'.dropOwn
  have off := S'.ownOff
  by_cases hlt : i < n
  · refine W.item i _ _ _ hlt hst' fun v h₁ tk₁ hP hst₁ hk₁ => ?_
    have S1 : St O V' cenv.locals mC' cl cv (cMD prog w env m D kvs h₁ wr M) h₁ := SD.addOwn hk₁ hnd off (hlive _ _ hst₁)
    refine wpAny_assign_Name (wpAny_storeName_local hx S1.ns (fun h₂ hn₂ hs₂ => ?_) (by rw [hk]; rfl))
    have S2 := S1.setL hn₂ hs₂
    have next : ∀ {kvs' : List (Str × Value)} {V'' : View} {mC'' : Str → Option Value} {h₃ : Heap} {tk₃ : Nat}, Sub V' V'' → St O V'' cenv.locals mC'' cl cv (own h₁ wr ++ ((env.locals, PN m) :: (D, PD prog w kvs') :: M)) h₃ → J (i + 1) V'' kvs' → kvs'.length ≤ i + 1 →
        ∃ j, j < n + 1 - i ∧ ∃ V' mC' kvs hb tk i, ({ s with heap := h₃, toks := tk₃ } : Shared) = { s with heap := hb, toks := tk } ∧ Sti i hb ∧ Sub V V' ∧ St O V' cenv.locals mC' cl cv (cMD prog w env m D kvs hb wr M) hb ∧ J i V' kvs ∧ i ≤ n ∧ kvs.length ≤ i ∧ j = n + 1 - i := by
      intro ys' V'' mC'' h₃ tk₃ hV₃ S3 hJ₃ hl
      have hst₃ : Sti (i + 1) h₃ := W.frame _ _ _ hst₁ fun b hb o e => by
        rcases hfp b hb with q | ⟨o', q⟩ | ⟨o', q⟩
        · exact S3.own_get q e
        · have e1 := S1.keepO _ _ q; rw [e] at e1; cases e1; exact S3.keepO _ _ q
        · have e1 := S1.keepV _ _ (hV _ _ q); rw [e] at e1; cases e1; exact S3.keepV _ _ (hV₃ _ _ (hV _ _ q))
      exact ⟨n + 1 - (i + 1), by omega, V'', mC'', ys', h₃, tk₃, i + 1, rfl, hst₃, hV.trans hV₃, S3.dropOwn.addOwn (fun _ _ _ e => e) hnd S3.ownOff (hlive _ _ hst₃), hJ₃, hlt, hl, rfl⟩
    refine wpAny_mono (turn i v V' kvs mC' h₁ h₂ _ hlt hP hV hJ S2) (fun ok s₃ t => ?_) fun _ _ e => e.elim
    cases ok with
    | false =>
      simp only [Bool.false_eq_true, if_false] at t ⊢
      obtain ⟨V'', mC'', h₃, tk₃, rfl, hV₃, S3, hJ₃⟩ := t
      exact next hV₃ S3 hJ₃ (Nat.le_succ_of_le hys)
    | true =>
      simp only [if_true] at t ⊢
      refine wpAny_mono t (fun kv s₄ t => ?_) fun _ _ e => e.elim
      refine wpAny_mono t (fun vv s₅ t => ?_) fun _ _ e => e.elim
      obtain ⟨k, tt, rfl, V'', mC'', h₃, tk₃, rfl, hV₃, S3, hJ₃⟩ := t
      have hD : At h₃.get? D (PD prog w kvs) := S3.getM (a := D) (P := PD prog w kvs) (by simp)
      refine wpAny_dictSet_pairs (hsz := by omega) (strKind_is prog w k tt) (PD.dictOf hD) fun h₄ hD₄ hs₄ => ?_
      have S4 : St O V'' cenv.locals mC'' cl cv ((own h₁ wr ++ [(env.locals, PN m)]) ++ (D, PD prog w (stored kvs k vv)) :: M) h₄ := by
        refine S3.turn (P := PD prog w kvs) (pre := own h₁ wr ++ [(env.locals, PN m)]) (post := M) (by rw [List.append_assoc]; rfl) ?_ hs₄
        exact Heap.dictOf_iff.mp hD₄
      refine next (kvs' := stored kvs k vv) hV₃ (by rw [List.append_assoc] at S4; exact S4) hJ₃ ?_
      have := stored_length_le kvs k vv
      omega
  · have hin : i = n := by omega
    subst hin
    refine W.done _ _ _ hst' fun h₁ tk₁ hk₁ => ?_
    refine done V' kvs mC' h₁ tk₁ hV hJ ⟨SD.ns.at' fun o e => hk₁ _ o (fun q => (off _ q).2.2.1 rfl) e, ?_, ?_, SD.apart, SD.off, ?_, SD.coff, SD.cinj, ?_, SD.moff, SD.nd⟩
    · exact fun a o e => hk₁ a o (fun q => by rw [(off a q).1] at e; cases e) (SD.keepO a o e)
    · exact fun a o e => hk₁ a o (fun q => by rw [(off a q).2.1] at e; cases e) (SD.keepV a o e)
    · exact fun p hp => let ⟨o, a, b⟩ := SD.cell p hp; ⟨o, hk₁ _ _ (fun q => (off _ q).2.2.2.1 (List.mem_map_of_mem hp)) a, b⟩
    · exact fun p hp => let ⟨o, a, b⟩ := SD.led p hp; ⟨o, hk₁ _ _ (fun q => (off _ q).2.2.2.2 (List.mem_map_of_mem hp)) a, b⟩

theorem dc_frame {scope : Scope} {E : Value → Shared → Prop} {Q : Value → Env → Shared → Prop} (hcell : ∀ y ∈ scope.names, y.2 ≠ .cell) (hkind : scope.kind = .function)
    (S : St O V env.locals m cl cv M s₁.heap) (k : Sub s₁.heap.get? s.heap.get?) (hfr : ∀ b ∈ wr, s₁.heap.get? b = none) (hnd : wr.Nodup) (hl : ∀ b ∈ wr, ∃ o, s.heap.get? b = some o)
    (h : ∀ D C h₁ tk, s.heap.get? D = none → s.heap.objs.size ≤ D → (∀ b o, s.heap.get? b = some o → h₁.get? b = some o) → St O V C (fun _ => none) cl cv (cMD prog w env m D [] h₁ wr M) h₁ → Q (.ref D) (compEnvC scope cl' C env) { s with heap := h₁, toks := tk }) :
    wpAny (model prog w) A newDict (fun acc s₃ => wpAny (model prog w) A (newFunctionEnv scope env.globals cl' [] env.qual none .none (some env)) (fun cenv s₄ => Q acc { cenv with scope := relabel scope env } s₄) E s₃) E s := by
  refine wpAny_newObj_type (wpAny_newFunctionEnv hcell (by intro y hy; simp at hy) (fun h₁ hns₁ hsb₁ => ?_) hkind)
  dsimp only at hns₁ hsb₁ ⊢
  have hpd : PD prog w [] { cls := .type "dict", dict := none, data := .dict #[] } := by
    obtain ⟨o, ho, hd⟩ := Heap.dictOf_iff.mp (Heap.DictOf.new (knd := strKind prog w) s.heap)
    rw [Heap.get?_push_size _ rfl] at ho
    exact (Option.some.inj ho) ▸ hd
  have Sg := (S.grown k).alloc { cls := .type "dict", dict := none, data := .dict #[] } (P := PD prog w []) hpd
  have kD : Sub s.heap.get? (s.heap.push { cls := .type "dict", dict := none, data := .dict #[] }).get? := fun b o e => Heap.get?_push_of_some _ e
  generalize hH2 : s.heap.push { cls := .type "dict", dict := none, data := .dict #[] } = H2 at hns₁ hsb₁ Sg kD ⊢
  have hsz : H2.objs.size = s.heap.objs.size + 1 := by rw [← hH2, Heap.size_push]
  have kC : Sub H2.get? h₁.get? := fun b o e => hsb₁.extBut b o (Nat.ne_of_lt (Heap.lt_size e)) (Heap.get?_push_of_some _ e)
  have S2 := Sg.inner kC size_none hns₁
  have live : ∀ b ∈ wr, ∃ o, h₁.get? b = some o := fun b hb => let ⟨o, e⟩ := hl b hb; ⟨o, kC _ _ (kD _ _ e)⟩
  refine h s.heap.objs.size H2.objs.size h₁ _ size_none (Nat.le_refl _) (fun b o e => kC _ _ (kD _ _ e)) ?_
  refine S2.addOwn (fun _ _ _ e => e) hnd (fun b hb => ?_) live
  have f := S.freshOff (hfr b hb)
  obtain ⟨o, e⟩ := hl b hb
  have lt := Heap.lt_size e
  refine ⟨f.1, f.2.1, fun q => ?_, f.2.2.2.1, ?_⟩
  · exact absurd lt (by rw [q, hsz]; exact Nat.not_lt.mpr (Nat.le_succ _))
  · intro q
    rw [List.map_cons, List.map_cons, List.mem_cons, List.mem_cons] at q
    rcases q with q | q | q
    · exact f.2.2.1 q
    · exact absurd lt (by rw [q]; exact Nat.lt_irrefl _)
    · exact f.2.2.2.2 q

theorem dc_core {kx vx iter : Expr} {x : Str} {px : Pos} {ifs : List Expr} {scope : Scope} {pos : Pos} {E : Value → Shared → Prop} {RR : Value → Addr → Result → Shared → Prop} (W : Walks prog w A I fp wr n P Sti) (hb3 : O 3 ≠ none)
    (hcell : ∀ y ∈ scope.names, y.2 ≠ .cell) (hkind : scope.kind = .function) (hx : scope.names.lookup x = some .local) (hsz : n ≤ sizeLine)
    (S : St O V env.locals m cl cv M s₁.heap) (k : Sub s₁.heap.get? s.heap.get?) (hfr : ∀ b ∈ wr, s₁.heap.get? b = none) (hnd : wr.Nodup) (hst : Sti 0 s.heap) (hlive : ∀ i h, Sti i h → ∀ b ∈ wr, ∃ o, h.get? b = some o)
    (hfp : ∀ b ∈ fp, b ∈ wr ∨ (∃ o, O b = some o) ∨ ∃ o, V b = some o) (J : InvD) (h0 : J 0 V [])
    (turn : ∀ i v C D V' kvs (mC : Str → Option Value) hb h tk, i < n → P i v → Sub V V' → J i V' kvs → St O V' C (fun y => if y = x then some v else mC y) cl cv (cMD prog w env m D kvs hb wr M) h →
      wpAny (model prog w) A (tests ifs (compEnvC scope cl' C env)) (fun ok s₃ => if ok = true then wpAny (model prog w) A (eval kx (compEnvC scope cl' C env)) (fun kv s₄ => wpAny (model prog w) A (eval vx (compEnvC scope cl' C env)) (fun vv s₅ =>
          EltD O V' C cl cv (cMD prog w env m D kvs hb wr M) prog w kv vv (fun k V'' => J (i + 1) V'' (stored kvs k vv)) s s₅) (fun _ _ => False) s₄) (fun _ _ => False) s₃
        else Elt O V' C cl cv (cMD prog w env m D kvs hb wr M) (fun V'' => J (i + 1) V'' kvs) s s₃) (fun _ _ => False) { s with heap := h, toks := tk })
    (done : ∀ D C V' kvs (mC : Str → Option Value) h tk, (D == sysModules) = false → Sub V V' → J n V' kvs → St O V' C mC cl cv ((env.locals, PN m) :: (D, PD prog w kvs) :: M) h → RR (.ref D) C (.ok .next) { s with heap := h, toks := tk }) :
    wpAny (model prog w) A newDict (fun acc s₃ => wpAny (model prog w) A (newFunctionEnv scope env.globals cl' [] env.qual none .none (some env)) (fun cenv s₄ =>
      codeAny (model prog w) A (.compStart (.DictComp kx vx [⟨.Name x px, iter, ifs, 0⟩] scope pos) 0 (.ref I) acc { cenv with scope := relabel scope env }) (RR acc cenv.locals) s₄) E s₃) E s := by
  refine dc_frame (s₁ := s₁) (s := s) (Q := fun acc cenv s₄ => codeAny (model prog w) A (.compStart (.DictComp kx vx [⟨.Name x px, iter, ifs, 0⟩] scope pos) 0 (.ref I) acc cenv) (RR acc cenv.locals) s₄) hcell hkind S k hfr hnd (hlive 0 _ hst) fun D C h₁ tk hD0 hD1 hk₁ S₁ => ?_
  have hst₁ : Sti 0 h₁ := W.frame _ _ _ hst fun b _ o e => hk₁ b o e
  have hsm : (D == sysModules) = false := by
    refine low (h := s.heap) ?_ hD0 hD1
    cases q : O 3 with
    | none => exact absurd q hb3
    | some o => rw [(S.grown k).keepO _ _ q]; simp
  have loop : codeAny (model prog w) A (.compLoop (.DictComp kx vx [⟨.Name x px, iter, ifs, 0⟩] scope pos) 0 (.ref I) (.ref D) (compEnvC scope cl' C env)) (RR (.ref D) C) { s with heap := h₁, toks := tk } :=
    dcLoop_name (s := { s with heap := h₁, toks := tk }) W (lookup_relabel_local hx) (by simp [compEnvC, relabel, hkind]) rfl hsz hnd hst₁ hlive hfp S₁ J h0
      (fun i v V' ys mC hb h tk hi hp hv hj S => turn i v C D V' ys mC hb h tk hi hp hv hj S) fun V' ys mC h tk hv hj S => done D C V' ys mC h tk hsm hv hj S
  exact codeAny_compStart_dict loop (W.self 0 _ _ _ hst₁ loop)
/-- a dict comprehension under a name of the frame's -/
noncomputable def DcA (prog : Program) (w : World) (A : Around) (env : Env) (scope : Scope) (cl' : List (Str × Addr)) (e : Expr) (t : Expr) (E : Value → Shared → Prop) (Q : Flow → Shared → Prop) (it : Value) (s : Shared) : Prop :=
  wpAny (model prog w) A newDict (fun acc s₃ => wpAny (model prog w) A (newFunctionEnv scope env.globals cl' [] env.qual none .none (some env)) (fun cenv s₄ =>
      codeAny (model prog w) A (.compStart e 0 it acc { cenv with scope := relabel scope env }) (compPost (model prog w) A E (some (assign t env)) (fun _ s' => Q .next s') acc cenv.locals) s₄) E s₃) E s

theorem exec_dc {kx vx target iter : Expr} {ifs : List Expr} {scope : Scope} {pos spos py : Pos} {y : Str} {Q : Flow → Shared → Prop} {E : Value → Shared → Prop}
    (hsw : swapsWith (.DictComp kx vx [⟨target, iter, ifs, 0⟩] scope pos) (some (.Name y py)) spos.line env = pure true) (hclos : closureFor scope env = pure cl') (hkind : scope.kind = .function)
    (hnames : ∀ y ∈ scope.names, y.2 = .local → scope.names.lookup y.1 = some .local)
    (h : wpAny (model prog w) A (eval iter env) (fun xv s₁ => wpAny (model prog w) A (pyIter xv) (DcA prog w A env scope cl' (.DictComp kx vx [⟨target, iter, ifs, 0⟩] scope pos) (.Name y py) E Q) E s₁) E s)
    (hs : ∀ x, foldedSetIterable iter env x = pure x := by intro _; rfl) :
    wpAny (model prog w) A (exec (.Assign [.Name y py] (.DictComp kx vx [⟨target, iter, ifs, 0⟩] scope pos) spos) env) Q E s := by
  rw [exec_Assign_Name_used _ _ _ _ hsw]
  refine wpAny_bind (wpAny_standAt (wpAny_bind ?_))
  show wpAny _ A (do let _ ← comprehension (.DictComp kx vx [⟨target, iter, ifs, 0⟩] scope pos) scope env _ newDict false (eval iter env) (some (assign (.Name y py) env))) _ _ s
  exact wpAny_bind (wpAny_mono (wpAny_comprehension_free (use := some (assign (.Name y py) env)) (Q := fun _ s' => Q .next s') rfl hs hclos hkind hnames h) (fun _ s' hq => wpAny_pure (wpAny_pure hq)) fun _ _ e => e)

theorem postD_A {E : Value → Shared → Prop} {Q : Flow → Shared → Prop} {y : Str} {py : Pos} {D C : Addr} {V' : View} {kvs : List (Str × Value)} {mC : Str → Option Value} {h : Heap} {tk : Nat} (S : St O V' C mC cl cv ((env.locals, PN m) :: (D, PD prog w kvs) :: M) h)
    (hy : env.kindOf y = some .local) (hk : env.scope.kind = .function)
    (hQ : ∀ h' tk, St O V' env.locals (fun z => if z = y then some (.ref D) else m z) cl cv ((D, PD prog w kvs) :: M) h' → Q .next { s with heap := h', toks := tk }) :
    compPost (model prog w) A E (some (assign (.Name y py) env)) (fun _ s' => Q .next s') (.ref D) C (.ok .next) { s with heap := h, toks := tk } := by
  have hL := S.moff _ (.head _)
  have hnL : h.Ns env.locals m := by obtain ⟨o, e, p⟩ := S.led _ (.head _); exact p.ns e
  show wpAny _ A (assign (.Name y py) env (.ref D)) _ _ _
  refine wpAny_assign_Name (wpAny_storeName_local hy hnL (fun h₂ hn₂ hs₂ => ?_) (by rw [hk]; rfl))
  obtain ⟨o, es, ep, e, r⟩ := hn₂
  have S2 := S.turn (pre := []) rfl (h' := h₂) (P' := PN (fun z => if z = y then some (.ref D) else m z)) ⟨o, e, es, ep, r⟩ hs₂
  exact ⟨mC, S2.ns, fun h' hs => hQ h' _ (S2.change hs)⟩

theorem dcA_src {kx vx iter : Expr} {x y : Str} {px py : Pos} {ifs : List Expr} {scope : Scope} {pos : Pos} {I : Addr} {fp wr : List Addr} {Sti : Nat → Heap → Prop} {h : Heap} {Q : Flow → Shared → Prop} {E : Value → Shared → Prop}
    (X : IsSrc prog w A O V n P s { s with heap := h } I fp wr Sti) (S : St O V env.locals m cl cv M s.heap) (hb3 : O 3 ≠ none)
    (hcell : ∀ y ∈ scope.names, y.2 ≠ .cell) (hkind : scope.kind = .function) (hx : scope.names.lookup x = some .local) (hsz : n ≤ sizeLine) (hy : env.kindOf y = some .local) (hk : env.scope.kind = .function) (J : InvD) (h0 : J 0 V [])
    (turn : ∀ i v C D V' kvs (mC : Str → Option Value) hb h tk, i < n → P i v → Sub V V' → J i V' kvs → St O V' C (fun y => if y = x then some v else mC y) cl cv (cMD prog w env m D kvs hb wr M) h →
      wpAny (model prog w) A (tests ifs (compEnvC scope cl' C env)) (fun ok s₃ => if ok = true then wpAny (model prog w) A (eval kx (compEnvC scope cl' C env)) (fun kv s₄ => wpAny (model prog w) A (eval vx (compEnvC scope cl' C env)) (fun vv s₅ =>
          EltD O V' C cl cv (cMD prog w env m D kvs hb wr M) prog w kv vv (fun k V'' => J (i + 1) V'' (stored kvs k vv)) s s₅) (fun _ _ => False) s₄) (fun _ _ => False) s₃
        else Elt O V' C cl cv (cMD prog w env m D kvs hb wr M) (fun V'' => J (i + 1) V'' kvs) s s₃) (fun _ _ => False) { s with heap := h, toks := tk })
    (done : ∀ D V' kvs h tk, (D == sysModules) = false → Sub V V' → J n V' kvs → St O V' env.locals (fun z => if z = y then some (.ref D) else m z) cl cv ((D, PD prog w kvs) :: M) h → Q .next { s with heap := h, toks := tk }) :
    DcA prog w A env scope cl' (.DictComp kx vx [⟨.Name x px, iter, ifs, 0⟩] scope pos) (.Name y py) E Q (.ref I) { s with heap := h } :=
  dc_core (s := { s with heap := h }) X.W hb3 hcell hkind hx hsz S X.k X.fr X.nd X.st X.live X.fp J h0 turn
    fun D C V' kvs mC h tk hsm hv hj S => postD_A S hy hk fun h' tk S => done D V' kvs h' tk hsm hv hj S
end
local macro_rules | `(tactic| walk_at "my_dcA") => `(tactic| (with_unfolding_all (refine' exec_dc ?a ?b ?c ?d ?_; (case a => rfl); (case b => rfl); (case c => rfl); (case d => decide))))
-- LawE
section
variable {prog : Program} {w : World} {mean : ExcName → Option Value} {mg mb : Str → Option Value} {base : Heap} {A : Around} {s : Shared}
theorem enterC {name : Str} {params : Arguments} {body : List Stmt} {scope : Scope} {dV kV doc pm cdv ct oc : Value} {an od : Option Addr} {osl : Array (Option Value)} {f : Addr} {args : List Value}
    {binds : List (Str × Value)} {m cv : Str → Option Value} {Post : Value → Prop} {k : Nat}
    (C : Cx w mean mg mb base) (hb : Sub base.get? s.heap.get?) (R : Room A k)
    (ho : (hd.heap_39 w.params).lookup f = some ⟨oc, od, .func (fnX name name params body scope [] dV kV doc pm an cdv ct), osl⟩) (hcd : codeIn (hd.heap_39 w.params) cdv name = true)
    (hbind : bindArgs (fnX name name params body scope [] dV kV doc pm an cdv ct) ⟨args, []⟩ = pure binds)
    (hkind : (binds.all fun y => scope.names.lookup y.1 == some .local || scope.names.lookup y.1 == some .cell) = true)
    (hnd : ((cellsFrom 0 scope.names []).map (·.1)).Nodup)
    (hm : ∀ L, bindL (envOfC name scope L f cdv).kindOf binds (fun _ => none) = m) (hc : ∀ L, bindC (envOfC name scope L f cdv).kindOf binds (fun _ => none) = cv)
    (h : ∀ L h₁ tk, St s.heap.get? (fun _ => none) L m (cellsFrom (L + 1) scope.names []) cv [] h₁ →
      wpAny (model prog w) (A.deeper (envOfC name scope L f cdv)) (execs body (envOfC name scope L f cdv))
        (fun fl s' => Keeps s s' ∧ Post (match fl with | .ret v => v | _ => .none)) (fun _ _ => False) { s with heap := h₁, toks := tk })
    (hco : scope.isCoroutine = false) (hgen : scope.isGenerator = false) (hk : scope.kind = .function) :
    codeAny (model prog w) A (.call (.ref f) ⟨args, []⟩) (fun r s' => ∃ v, r = .ok (.ret v) ∧ Keeps s s' ∧ Post v) s := by
  have hX : (hd.heap_39 w.params).In s.heap := fun a o e => hb _ _ (C.X a o e)
  refine (codeAny_call_function (by have := R.d; omega) (hX _ _ ho) rfl hco hgen rfl (codeRec_of hX hcd) ?_)
  rw [hbind]
  refine wpAny_pure (wpAny_newFunctionEnv_cells hk (kindsX hkind _) fun env' he s' x => ?_)
  subst he
  have hk₁ := x.toInCall.keep
  refine ⟨(C.T.nolimit.keeps hb).keeps hk₁, codeAny_func ?_⟩
  obtain ⟨h₁, tk, rfl, _⟩ := x.done
  have hmem : ∀ n c, (n, c) ∈ cellsFrom (s.heap.objs.size + 1) scope.names [] → (cellsFrom (s.heap.objs.size + 1) scope.names []).lookup n = some c := fun n c hm => lookup_of_mem_nodup (cellsFrom_names scope.names 0 (s.heap.objs.size + 1) [] [] rfl ▸ hnd) hm
  have ab : ∀ p ∈ cellsFrom (s.heap.objs.size + 1) scope.names [], s.heap.get? p.2 = none ∧ p.2 ≠ s.heap.objs.size := fun p hp => by
    have hlt : s.heap.objs.size < p.2 := x.above p.1 p.2 hp
    refine ⟨?_, Nat.ne_of_gt hlt⟩
    cases e : s.heap.get? p.2 with
    | none => rfl
    | some o => exact absurd (Heap.lt_size e) (Nat.not_lt.mpr (Nat.le_of_lt hlt))
  have S : St s.heap.get? (fun _ => none) s.heap.objs.size m (cellsFrom (s.heap.objs.size + 1) scope.names []) cv [] h₁ := by
    refine ⟨hm _ ▸ x.toInCall.ns, hk₁, (fun _ _ e => nomatch e), (fun _ _ e => nomatch e), ⟨?_, rfl⟩, fun p hp => hc s.heap.objs.size ▸ x.cell _ _ (hmem _ _ hp), fun p hp => ⟨(ab p hp).1, rfl, (ab p hp).2⟩, pairwise_iff x.apart (cellsFrom_names scope.names 0 (s.heap.objs.size + 1) [] [] rfl ▸ hnd), (fun _ h => nomatch h), (fun _ h => nomatch h), List.nodup_nil⟩
    cases e : s.heap.get? s.heap.objs.size with
    | none => rfl
    | some o => exact absurd (Heap.lt_size e) (Nat.lt_irrefl _)
  exact wpAny_mono (h _ h₁ tk S) (fun fl s' hl => ⟨_, rfl, hl⟩) fun _ _ f => f.elim
end
theorem li_of {h : Heap} {a : Addr} {vs : List Value} {ns : List Int} (hL : h.IsList a vs.toArray) (hI : IntsAre vs ns) : At h.get? a (LI ns) := by
  obtain ⟨o, e, c, n, d⟩ := hL
  exact ⟨o, e, vs, ⟨c, n, d⟩, hI⟩
/-- the law's call as a code -/
noncomputable def LawDoes : Prop := ∀ (w : World) (mean : ExcName → Option Value) (mg mb : Str → Option Value) (s : Shared) (l : Addr) (ns : List Int),
  Cx w mean mg mb s.heap → At s.heap.get? l (LI ns) → ns.length ≤ 63 →
  codeAny (model PySem.Challenge.rw_xo0013_01.row.prog w) callerA (.call (.ref 185) ⟨[.ref l], []⟩) (fun r s' => ∃ v, r = .ok (.ret v) ∧ Keeps s s' ∧ v = .bool true) s
set_option maxHeartbeats 4000000 in
theorem law_end (hlaw : LawDoes) : PySem.Challenge.rw_xo0013_01.Holds := hd (by
  k_fill
  intro w s₀ s₁ mg mb G Y fa o pm cd doc dV kV ho hd' hcd hD hmg hg args vals as hpre hlay hrd hwl hlo
  have KX := kIn_of Y
  refine Ground.open G ?_
  intro T B D TE TW
  have e9 : mg (Str.ofString "law") = some (.ref 185) := mg_of KX T.g (by k_is)
  have e8 : fa = 185 := by
    have := hmg.symm.trans e9
    injection this with this; injection this
  subst e8
  wrow_args hpre hlay hrd hwl hlo
  refine enter_call ?_
  w_top on
  try refine codeAny_mono ?_ (fun _ _ g => GoodW.toG g)
  rename IntsAre _ _ => hI
  rename Heap.IsList _ _ _ => hL
  rename True => hT9
  clear hT9
  rename ¬ _ < _ => hlen
  have hl := li_of hL hI
  have h63 := Nat.le_of_not_lt fun h => hlen (Int.ofNat_lt.mpr h)
  refine codeAny_mono (hlaw w _ _ _ s₁ _ _ ⟨KX, T⟩ hl h63) ?_
  rintro r s' ⟨v, rfl, ⟨h', tk, rfl, k⟩, rfl⟩
  refine ⟨.inl ⟨_, _, _, rfl, fun _ => rfl, .bool true, ?_, ?_⟩, k, rfl, hg⟩
  · wrow_post
  · intro _
    exact ⟨List.nodup_nil, fun _ h => nomatch h⟩)
-- EqD
section
variable {K β : Type} [DecidableEq K] {nm : K → Str} {R R' : Value → β → Prop} {ka kb : List (Str × Value)} {ps qs : List (K × β)} {A : Around} {s : Shared}
theorem KvR.keys (x : KvR nm R ka ps) : ka.map (·.1) = ps.map fun p => nm p.1 := by
  induction x with
  | nil => rfl
  | cons _ _ ih => rw [List.map_cons, List.map_cons, ih]
theorem KvR.nodup (x : KvR nm R ka ps) (h : (ka.map (·.1)).Nodup) : (ps.map (·.1)).Nodup := by
  rw [x.keys] at h
  have : (ps.map fun p => nm p.1) = (ps.map (·.1)).map nm := by rw [List.map_map]; rfl
  rw [this] at h
  exact List.Pairwise.of_map nm (fun a b h e => h (e ▸ rfl)) h
theorem getK_mem {ps : List (K × β)} (h : (ps.map (·.1)).Nodup) {c : K} {b : β} (hm : (c, b) ∈ ps) : getK ps c = some b := by
  induction ps with
  | nil => cases hm
  | cons p r ih =>
    rw [List.map_cons, List.nodup_cons] at h
    simp only [getK]
    rcases List.mem_cons.mp hm with rfl | hm
    · rw [if_pos rfl]
    · rw [if_neg]
      · exact ih h.2 hm
      · intro e
        exact h.1 (e ▸ List.mem_map_of_mem (f := (·.1)) hm)
theorem KvR.unmap {γ : Type} {f : γ → β} {ls : List (K × γ)} (x : KvR nm R ka (ls.map fun q => (q.1, f q.2))) : KvR nm (fun v g => R v (f g)) ka ls := by
  induction ls generalizing ka with
  | nil => cases x; exact .nil
  | cons p r ih =>
    rw [List.map_cons] at x
    cases x with
    | cons h x => exact .cons h (ih x)
end
/-- the values are found equal, in this world -/
noncomputable def EqW (prog : Program) (w : World) (A : Around) (s : Shared) (v y : Value) : Prop := ∀ (E : Value → Shared → Prop) (Q : Bool → Shared → Prop), Q true s → wpAny (model prog w) A (eqBool v y) Q E s
section
variable {prog : Program} {w : World} {A : Around} {E : Value → Shared → Prop} {s : Shared} {a b : Addr} {ka kb : List (Str × Value)}
/-- an entry under a key that the dict holds -/
theorem entry_of {es : Array DictEntry} {kvs : List (Str × Value)} (p : Pairs (strKind prog w) es.toList kvs) {k : Str} {y : Value} (h : valueAt kvs k = some y) :
    ∃ j e, es.findIdx? (fun e => (strKind prog w).is k e.key) = some j ∧ es[j]? = some e ∧ e.val = y := by
  have hf : findBy (strKind prog w).is es k = some y := by
    rw [← h, ← p.find k]
    obtain ⟨l⟩ := es
    simp [findBy]
  rw [findBy_of_findIdx?] at hf
  split at hf
  · rename_i j hj
    obtain ⟨e, he, hv⟩ := Option.map_eq_some_iff.mp hf
    exact ⟨j, e, hj, he, hv⟩
  · cases hf
theorem pair_of {es : Array DictEntry} {kvs : List (Str × Value)} (p : Pairs (strKind prog w) es.toList kvs) (ks : KeysOf (strKind prog w) es) {x : Nat} (hx : x < es.size) :
    ∃ e k v, es[x]? = some e ∧ (k, v) ∈ kvs ∧ (strKind prog w).is k e.key = true ∧ e.hash = (strKind prog w).hash k ∧ e.val = v := by
  have hl : kvs.length = es.size := by rw [← p.length]; exact Array.length_toList
  have hx' : x < kvs.length := by omega
  have e1 : es[x]? = some es[x] := Array.getElem?_eq_getElem hx
  obtain ⟨hk, hv⟩ := p.get? (i := x) (e := es[x]) (k := kvs[x].1) (v := kvs[x].2) (by rw [Array.getElem?_toList]; exact e1) (List.getElem?_eq_getElem hx')
  obtain ⟨k', hk', hh⟩ := ks es[x] (Array.getElem_mem hx)
  rw [(strKind prog w).inj _ _ _ hk' hk] at hh
  exact ⟨es[x], kvs[x].1, kvs[x].2, e1, List.getElem_mem hx', hk, hh, hv⟩
theorem same_dicts {id : String} {Q : Bool → Shared → Prop} (ha : (a == sysModules) = false) (hb : (b == sysModules) = false) (xa : At s.heap.get? a (PD prog w ka)) (xb : At s.heap.get? b (PD prog w kb)) (hl : ka.length = kb.length)
    (hit : ∀ k v, (k, v) ∈ ka → ∃ y, valueAt kb k = some y ∧ EqW prog w A s v y) (h : Q true s) : wpAny (model prog w) A (Builtin.Dict.samePairs id a b) Q E s := by
  obtain ⟨oa, ea, es, na, _, hda, hka, hpa, _⟩ := xa
  obtain ⟨ob, eb, fs, nb, _, hdb, hkb, hpb, _⟩ := xb
  have hsz : es.size = fs.size := by
    have h1 : ka.length = es.size := by rw [← hpa.length]; exact Array.length_toList
    have h2 : kb.length = fs.size := by rw [← hpb.length]; exact Array.length_toList
    omega
  unfold Builtin.Dict.samePairs Builtin.Dict.showsAll
  simp only [ha, hb, Bool.false_eq_true, if_false]
  refine wpAny_bind (wpAny_pure (wpAny_bind (wpAny_pure (wpAny_bind (wpAny_dictEntries ea hda ?_)))))
  refine wpAny_bind (wpAny_dictEntries eb hdb ?_)
  have hne : (es.size != fs.size) = false := by rw [hsz]; simp
  simp only [hne, Bool.false_eq_true, if_false]
  refine wpAny_bind (wpAny_dictEpoch ea hda (wpAny_bind ?_))
  rw [Std.Legacy.Range.forIn_eq_forIn_range']
  simp only [Std.Legacy.Range.size, Nat.sub_zero, Nat.add_sub_cancel, Nat.div_one]
  refine wpAny_forIn_list _ (fun rest q s' => s' = s ∧ q = (none, ()) ∧ ∀ x ∈ rest, x < es.size) _ ?_ ?_ _ _ ⟨rfl, rfl, fun x hx => by simpa using hx⟩
  · rintro x rest q s' ⟨rfl, rfl, hlt⟩
    obtain ⟨e, k, v, e1, hm, hk, hh, rfl⟩ := pair_of hpa hka (hlt x (.head _))
    obtain ⟨y, hy, heq⟩ := hit k _ hm
    obtain ⟨j, f, hj, e2, rfl⟩ := entry_of hpb hy
    refine wpAny_bind (wpAny_dictEntries ea hda ?_)
    rw [e1]
    refine wpAny_bind (wpAny_holding ?_)
    rw [hh]
    refine wpAny_bind (wpAny_dictFind_of hk eb hdb hkb ?_)
    rw [hj]
    refine wpAny_bind (wpAny_dictEntries eb hdb ?_)
    rw [e2]
    refine wpAny_holding (heq _ _ ?_)
    simp only [Bool.not_true, Bool.false_eq_true, if_false]
    refine wpAny_bind (wpAny_dictEpoch ea hda ?_)
    simp only [bne_self_eq_false, Bool.false_eq_true, if_false]
    exact wpAny_pure ⟨rfl, rfl, fun x hx => hlt x (.tail _ hx)⟩
  · rintro q s' ⟨rfl, rfl, _⟩
    exact wpAny_pure h
/-- two dicts as the arguments of a slot -/
theorem slot_args {name : String} {Q : Value × Value → Shared → Prop} (xa : At s.heap.get? a (PD prog w ka)) (h : Q (.ref a, .ref b) s) : wpAny (model prog w) A (Builtin.Dict.dictSlotArgs name ⟨[.ref a, .ref b], []⟩) Q E s := by
  unfold Builtin.Dict.dictSlotArgs
  exact wpAny_bind (wpAny_notOrdered_dict (PD.dictOf xa).typeIs (wpAny_pure h))
theorem rc_dicts {Q : Value → Shared → Prop} (ha : (a == sysModules) = false) (hb : (b == sysModules) = false) (xa : At s.heap.get? a (PD prog w ka)) (xb : At s.heap.get? b (PD prog w kb)) (hl : ka.length = kb.length)
    (hit : ∀ k v, (k, v) ∈ ka → ∃ y, valueAt kb k = some y ∧ EqW prog w A.in1 s v y) (hu : A.units < cLine) (h : Q (.bool true) s) : wpAny (model prog w) A (richCompare .Eq (.ref a) (.ref b)) Q E s := by
  have ta := (PD.dictOf xa).typeIs
  have tb := (PD.dictOf xb).typeIs
  refine wpAny_richCompare_same_room (op := .Eq) ta tb F.slot_dict_eq (wpAny_call_entry F.slot_dict_eq ta F.entry_dict_eq ?_ (F.args_dict_eq_2 _ _)) hu
  show wpAny _ _ (Builtin.Dict.dictSlotArgs "__eq__" ⟨[.ref a, .ref b], []⟩ >>= _) _ _ s
  refine wpAny_bind (slot_args xa (wpAny_bind (wpAny_isInstance (T := "dict") tb F.sub_dict_dict ?_)))
  simp only [Bool.not_true, Bool.false_eq_true, if_false]
  refine wpAny_bind (wpAny_pure (wpAny_bind (wpAny_pure (wpAny_bind (same_dicts ha hb xa xb hl hit (wpAny_pure ⟨_, rfl, (fun x => nomatch x), ?_⟩))))))
  simpa using h
theorem ne_dicts {Q : Value → Shared → Prop} (ha : (a == sysModules) = false) (hb : (b == sysModules) = false) (xa : At s.heap.get? a (PD prog w ka)) (xb : At s.heap.get? b (PD prog w kb)) (hl : ka.length = kb.length)
    (hit : ∀ k v, (k, v) ∈ ka → ∃ y, valueAt kb k = some y ∧ EqW prog w A.in1 s v y) (hu : A.units < cLine) (h : Q (.bool false) s) : wpAny (model prog w) A (compareOp .NotEq (.ref a) (.ref b)) Q E s := by
  have ta := (PD.dictOf xa).typeIs
  have tb := (PD.dictOf xb).typeIs
  refine wpAny_richCompare_same_room (op := .NotEq) ta tb F.slot_dict_ne (wpAny_call_entry F.slot_dict_ne ta F.entry_dict_ne ?_ (F.args_dict_ne_2 _ _)) hu
  show wpAny _ _ (Builtin.Dict.dictSlotArgs "__ne__" ⟨[.ref a, .ref b], []⟩ >>= _) _ _ s
  refine wpAny_bind (slot_args xa (wpAny_bind (wpAny_isInstance (T := "dict") tb F.sub_dict_dict ?_)))
  simp only [Bool.not_true, Bool.false_eq_true, if_false]
  refine wpAny_bind (wpAny_pure (wpAny_bind (wpAny_pure (wpAny_bind (same_dicts ha hb xa xb hl hit (wpAny_pure ⟨_, rfl, (fun x => nomatch x), ?_⟩))))))
  simpa using h
theorem EqW.refs {v y : Value} {a b : Addr} (hv : v = .ref a) (hy : y = .ref b) (h : ∀ (E Q : Value → Shared → Prop), Q (.bool true) s → wpAny (model prog w) A (richCompare .Eq (.ref a) (.ref b)) Q E s) : EqW prog w A s v y := by
  subst hv hy
  intro E Q hq
  by_cases e : a = b
  · subst e; exact SeqAt.EqAt.same _ prog w E Q hq
  unfold eqBool
  refine wpAny_holding ?_
  refine wpAny_ite_split (fun hab => absurd (by have := eq_of_beq hab; injection this) e) (fun _ => ?_)
  exact wpAny_bind (h _ _ (wpAny_truthy_bool hq))
end
section
variable {K : Type} [DecidableEq K] {nm : K → Str} {prog : Program} {w : World} {A : Around} {s : Shared} {a b : Addr} {kvs : List (Str × Value)}
theorem KvR.hitAt {β : Type} {R R' : Value → β → Prop} {ka kb : List (Str × Value)} {ps : List (K × β)} (inj : ∀ a b, nm a = nm b → a = b) (xa : KvR nm R ka ps) (xb : KvR nm R' kb ps) (hn : (ka.map (·.1)).Nodup)
    (he : ∀ v y b, R v b → R' y b → EqW prog w A s v y) : ∀ k v, (k, v) ∈ ka → ∃ y, valueAt kb k = some y ∧ EqW prog w A s v y := by
  intro k v hm
  obtain ⟨i, hi⟩ := List.getElem?_of_mem hm
  obtain ⟨c, b, hc, rfl, hr⟩ := xa.at hi
  have hg := getK_mem (xa.nodup hn) (List.mem_of_getElem? hc)
  rcases xb.get inj c with ⟨_, e2⟩ | ⟨y, b', e1, e2, hy⟩
  · rw [hg] at e2; cases e2
  · rw [hg] at e2
    cases e2
    exact ⟨y, e1, he _ _ _ hr hy⟩
theorem eq_inner {ps : List (K × Int)} {v y : Value} (inj : ∀ a b, nm a = nm b → a = b) (ea : v = .ref a) (eb : y = .ref b) (ha : (a == sysModules) = false) (hb : (b == sysModules) = false) (xa : At s.heap.get? a (KI prog w nm ps)) (xb : At s.heap.get? b (KI prog w nm ps)) (hu : A.units < cLine) :
    EqW prog w A s v y := by
  refine EqW.refs ea eb fun E Q hq => ?_
  obtain ⟨oa, ga, ka, pa, ra⟩ := xa
  obtain ⟨ob, gb, kb, pb, rb⟩ := xb
  refine rc_dicts ha hb ⟨oa, ga, pa⟩ ⟨ob, gb, pb⟩ (by rw [ra.length, rb.length]) (KvR.hitAt inj ra rb pa.nodup ?_) hu hq
  rintro v y n ⟨t, rfl⟩ ⟨u, rfl⟩
  have := SeqAt.EqAt.int_int (A := A.in1) (s := s) n t n u
  rw [beq_self_eq_true] at this
  exact this prog w
theorem ne_tables {E Q : Value → Shared → Prop} {ls : List (K × List K)} {share : Int} {ka kb : List (Str × Value)} (inj : ∀ a b, nm a = nm b → a = b) (ha : (a == sysModules) = false) (hb : (b == sysModules) = false) (xa : At s.heap.get? a (PD prog w ka)) (xb : At s.heap.get? b (PD prog w kb))
    (ra : KvR nm (RT prog w nm s.heap.get? share) ka ls) (rb : KvR nm (RT prog w nm s.heap.get? share) kb ls) (hu : A.units < cLine) (hu1 : A.in1.units < cLine) (h : Q (.bool false) s) :
    wpAny (model prog w) A (compareOp .NotEq (.ref a) (.ref b)) Q E s := by
  have hn : (ka.map (·.1)).Nodup := by obtain ⟨_, _, q⟩ := xa; exact q.nodup
  refine ne_dicts ha hb xa xb (by rw [ra.length, rb.length]) (KvR.hitAt inj ra rb hn ?_) hu h
  rintro v y l ⟨c, ec, hc, xc⟩ ⟨d, ed, hd, xd⟩
  exact eq_inner inj ec ed hc hd xc xd hu1
theorem RT.sub {V V' : View} {share : Int} (k : Sub V V') (v : Value) (l : List K) (h : RT prog w nm V share v l) : RT prog w nm V' share v l := let ⟨a, e, hs, x⟩ := h; ⟨a, e, hs, x.sub k⟩
/-- lists of lists of ints -/
theorem LLR.at {V : View} {vs : List Value} {nss : List (List Int)} (x : LLR V vs nss) : ∀ {j : Nat} {v : Value}, vs[j]? = some v → ∃ a ns, v = .ref a ∧ nss[j]? = some ns ∧ At V a (LI ns) := by
  induction x with
  | nil => intro j v h; cases h
  | cons h x ih =>
    intro j v e
    cases j with
    | zero => cases e; exact ⟨_, _, rfl, rfl, h⟩
    | succ j => exact ih e
theorem eq_ints9 {ns : List Int} (xa : At s.heap.get? a (LI ns)) (xb : At s.heap.get? b (LI ns)) (hu : A.in1.units + 64 < cLine) : SeqAt.EqAt A.in1 s (.ref a) (.ref b) true := by
  obtain ⟨vs, p, q⟩ := LI.list xa
  obtain ⟨us, p', q'⟩ := LI.list xb
  have := keq_ints (A := A) p q p' q' hu
  rwa [decide_eq_true rfl] at this
theorem ne_lists {E Q : Value → Shared → Prop} {vs us : List Value} {nss : List (List Int)} (xa : At s.heap.get? a (PI vs)) (xb : At s.heap.get? b (PI us)) (ra : LLR s.heap.get? vs nss) (rb : LLR s.heap.get? us nss) (hu : A.units < cLine) (hu1 : A.in1.units + 64 < cLine)
    (h : Q (.bool false) s) : wpAny (model prog w) A (compareOp .NotEq (.ref a) (.ref b)) Q E s := by
  refine SeqAt.RcNeAt.lists (A := A) (s := s) (e := fun _ => true) xa.list xb.list (by simp [ra.length, rb.length]) hu (fun j h1 h2 => ?_) prog w E Q ?_
  · have e1 : vs[j]? = some vs.toArray[j] := by simp at h1 ⊢
    have e2 : us[j]? = some us.toArray[j] := by simp at h2 ⊢
    obtain ⟨a', ns, q1, q2, q3⟩ := ra.at e1
    obtain ⟨b', ms, p1, p2, p3⟩ := rb.at e2
    rw [q2] at p2
    cases p2
    rw [q1, p1]
    exact eq_ints9 q3 p3 hu1
  · have e : (List.range vs.toArray.size).all (fun _ => true) = true := by rw [List.all_eq_true]; intro _ _; rfl
    rw [e]
    exact h
theorem eq_ints99 {E Q : Value → Shared → Prop} {ns : List Int} (xa : At s.heap.get? a (LI ns)) (xb : At s.heap.get? b (LI ns)) (hu : A.units + 64 < cLine) (h : Q (.bool true) s) : wpAny (model prog w) A (compareOp .Eq (.ref a) (.ref b)) Q E s := by
  obtain ⟨vs, p, q⟩ := LI.list xa
  obtain ⟨us, p', q'⟩ := LI.list xb
  refine ke_eq_ints p p' q q' hu ?_
  rw [decide_eq_true rfl]
  exact h
end
theorem getK_notin {K β : Type} [DecidableEq K] {ps : List (K × β)} {c : K} (h : c ∉ ps.map (·.1)) : getK ps c = none := by
  induction ps with
  | nil => rfl
  | cons p r ih =>
    rw [List.map_cons, List.mem_cons, not_or] at h
    simp only [getK, if_neg (Ne.symm h.1)]
    exact ih h.2
theorem getK_mapped {K β : Type} [DecidableEq K] {cs : List K} (f : K → β) {c : K} (h : c ∈ cs) : getK (cs.map fun c => (c, f c)) c = some (f c) := by
  induction cs with
  | nil => cases h
  | cons a r ih =>
    simp only [List.map_cons, getK]
    by_cases q : a = c
    · rw [if_pos q, q]
    · rw [if_neg q]
      exact ih ((List.mem_cons.mp h).resolve_left (Ne.symm q))
-- PDef
noncomputable def Case (p sz : Nat) : Prop := (p = 2 ∧ sz = 3) ∨ (p = 3 ∧ sz = 2) ∨ (p = 2 ∧ sz = 4) ∨ (p = 5 ∧ sz = 2)
noncomputable def tsP (p sz code : Nat) : List Int := (List.range sz).map fun i => ((digN p code i : Nat) : Int)
noncomputable def lowP (p sz code : Nat) : Nat := (((List.range sz).filter fun i => digN p code i ≠ 0) ++ [sz]).headD 0
noncomputable def dueL (p sz low : Nat) : List (List Int) := ((List.range low).map fun i => List.replicate (p ^ (sz - 1 - i)) (p : Int)) ++ [List.replicate (p ^ (sz - low)) 1]
noncomputable def bigT (c : Nat) : Str := ⟨(List.replicate (c + 60) 0).toArray⟩
noncomputable def nmP (p sz c : Nat) : Str := if c < p ^ sz then winT p sz c else bigT c
structure PF (p sz code more : Nat) : Prop where
  N100 : p ^ sz ≤ 100
  inj : ∀ a b, nmP p sz a = nmP p sz b → a = b
  next : ∀ c, c < p ^ sz → ∃ Rs tail, NextOk (winT p sz c) sz (fun i => ((digN p c i : Nat) : Int)) Rs tail ∧ Str.ofString (toString ((valN (tsP p sz code) more p c).fmod (p : Int))) ++ (Str.ofString "." ++ tail) = nmP p sz (nxN (tsP p sz code) more p c)
  cl : ∀ c, c < p ^ sz → nxN (tsP p sz code) more p c < p ^ sz
  prof : ∀ share : Int, profF (fun a b : Int => a + b) (nxN (tsP p sz code) more p) (List.range (p ^ sz)) [share - 7, 7] = (plainF (nxN (tsP p sz code) more p) (List.range (p ^ sz))).map fun q => (q.1, q.2.map fun c => (c, share))
  struck : struckF (plainF (nxN (tsP p sz code) more p) (List.range (p ^ sz))) 100 (List.range (p ^ sz)) = some (dueL p sz (lowP p sz code))
  ret : ∀ k, k < 8 → dueP (tsP p sz code) more p (k + 1) = some ((retP (nxN (tsP p sz code) more p) (List.range (p ^ sz)) (k + 1) : Nat) : Int)
-- PTab
section
variable {K β γ : Type} [DecidableEq K]
theorem getK_map (f : β → γ) (tb : List (K × β)) (k : K) : getK (tb.map fun q => (q.1, f q.2)) k = (getK tb k).map f := by
  induction tb with
  | nil => rfl
  | cons p r ih =>
    simp only [List.map_cons, getK]
    split
    · rfl
    · exact ih
theorem putK_map (f : β → γ) (tb : List (K × β)) (k : K) (v : β) : putK (tb.map fun q => (q.1, f q.2)) k (f v) = (putK tb k v).map fun q => (q.1, f q.2) := by
  induction tb with
  | nil => rfl
  | cons p r ih =>
    simp only [List.map_cons, putK]
    split
    · rfl
    · rw [ih]; rfl
theorem getK_putK (tb : List (K × β)) (k k' : K) (v : β) : getK (putK tb k v) k' = if k = k' then some v else getK tb k' := by
  induction tb with
  | nil => simp [putK, getK]
  | cons p r ih =>
    simp only [putK]
    by_cases q : p.1 = k
    · rw [if_pos q]
      simp only [getK]
      by_cases z : k = k'
      · simp [z]
      · have : ¬ p.1 = k' := by rw [q]; exact z
        simp [z, this]
    · rw [if_neg q]
      simp only [getK]
      by_cases z : p.1 = k'
      · have : ¬ k = k' := fun e => q (z.trans e.symm)
        simp [z, this]
      · simp only [if_neg z]; exact ih
theorem putK_keys (tb : List (K × β)) (k : K) (v : β) : ∀ x, x ∈ (putK tb k v).map (·.1) → x ∈ tb.map (·.1) ∨ x = k := by
  intro x hx
  obtain ⟨p, hp, rfl⟩ := List.mem_map.mp hx
  rcases putK_mem hp with h | h
  · exact .inl (List.mem_map_of_mem h)
  · exact .inr (by rw [h])
theorem putK_nodup {tb : List (K × β)} (h : (tb.map (·.1)).Nodup) (k : K) (v : β) : ((putK tb k v).map (·.1)).Nodup := by
  induction tb with
  | nil => simp [putK]
  | cons p r ih =>
    rw [List.map_cons, List.nodup_cons] at h
    simp only [putK]
    by_cases q : p.1 = k
    · rw [if_pos q, List.map_cons, List.nodup_cons]
      exact ⟨q ▸ h.1, h.2⟩
    · rw [if_neg q, List.map_cons, List.nodup_cons]
      refine ⟨fun hm => ?_, ih h.2⟩
      rcases putK_keys r k v _ hm with z | z
      · exact h.1 z
      · exact q z
theorem mem_getK {tb : List (K × β)} {k : K} {l : β} (h : getK tb k = some l) : (k, l) ∈ tb := by
  induction tb with
  | nil => cases h
  | cons p r ih =>
    simp only [getK] at h
    split at h
    · rename_i q
      cases h
      exact q ▸ .head _
    · exact .tail _ (ih h)
theorem copy_eq (ps acc : List (K × β)) (h : ((acc ++ ps).map (·.1)).Nodup) : ps.foldl (fun n p => putK n p.1 p.2) acc = acc ++ ps := by
  induction ps generalizing acc with
  | nil => simp
  | cons p r ih =>
    rw [List.foldl_cons, putK_none]
    · rw [ih _ (by simpa using h)]; simp
    · refine getK_notin fun hm => ?_
      rw [List.map_append, List.nodup_append] at h
      exact h.2.2 _ hm _ (by simp) rfl
theorem putK_one {l : List K} (f : K → β) (hn : l.Nodup) {a : K} (v : β) (ha : a ∈ l) : putK (l.map fun c => (c, f c)) a v = l.map fun c => (c, if c = a then v else f c) := by
  induction l with
  | nil => cases ha
  | cons b r ih =>
    rw [List.nodup_cons] at hn
    simp only [List.map_cons, putK]
    by_cases q : b = a
    · subst q
      simp only [if_true]
      congr 1
      refine List.map_congr_left fun c hc => ?_
      have : ¬ c = b := fun e => hn.1 (e ▸ hc)
      rw [if_neg this]
    · rw [if_neg q, if_neg q, ih hn.2 ((List.mem_cons.mp ha).resolve_left (Ne.symm q))]
theorem putK_rows {F F' : β → γ} {tb : List (K × β)} {k : K} {l0 : β} (hn : (tb.map (·.1)).Nodup) (hg : getK tb k = some l0) (h : ∀ q ∈ tb, q.1 ≠ k → F q.2 = F' q.2) :
    putK (tb.map fun q => (q.1, F q.2)) k (F' l0) = tb.map fun q => (q.1, F' q.2) := by
  induction tb with
  | nil => cases hg
  | cons p r ih =>
    rw [List.map_cons, List.nodup_cons] at hn
    simp only [List.map_cons, putK]
    simp only [getK] at hg
    by_cases q : p.1 = k
    · rw [if_pos q] at hg
      cases hg
      rw [if_pos q, q]
      congr 1
      refine List.map_congr_left fun x hx => ?_
      have := h x (.tail _ hx) fun e => hn.1 (by rw [q, ← e]; exact List.mem_map_of_mem hx)
      rw [this]
    · rw [if_neg q] at hg
      rw [if_neg q, h p (.head _) q, ih hn.2 hg fun x hx => h x (.tail _ hx)]
/-- the rows of a table that is being built -/
structure TabOk (nx : Nat → Nat) (done : List Nat) (tb : List (Nat × List Nat)) : Prop where
  keys : (tb.map (·.1)).Nodup
  rows : ∀ q ∈ tb, q.2.Nodup
  from_ : ∀ q ∈ tb, ∀ x ∈ q.2, nx x = q.1 ∧ x ∈ done
  has : ∀ d ∈ done, ∃ l, getK tb (nx d) = some l ∧ d ∈ l
theorem TabOk.row {nx : Nat → Nat} {done : List Nat} {tb : List (Nat × List Nat)} (T : TabOk nx done tb) (k : Nat) : ((getK tb k).getD []).Nodup ∧ ∀ x ∈ (getK tb k).getD [], nx x = k ∧ x ∈ done := by
  cases h : getK tb k with
  | none => exact ⟨List.nodup_nil, fun _ h => nomatch h⟩
  | some l => exact ⟨T.rows _ (mem_getK h), fun x hx => T.from_ _ (mem_getK h) x hx⟩
theorem putU_new {l : List Nat} {a : Nat} (h : a ∉ l) : putU l a = l ++ [a] := if_neg h
theorem TabOk.step {nx : Nat → Nat} {done : List Nat} {tb : List (Nat × List Nat)} (T : TabOk nx done tb) {a : Nat} (ha : a ∉ done) : TabOk nx (done ++ [a]) (plainS nx tb a) := by
  have hr := T.row (nx a)
  have hal : a ∉ (getK tb (nx a)).getD [] := fun h => ha (hr.2 a h).2
  have e : plainS nx tb a = putK tb (nx a) ((getK tb (nx a)).getD [] ++ [a]) := by unfold plainS; rw [putU_new hal]
  have hn : ((getK tb (nx a)).getD [] ++ [a]).Nodup := by
    rw [List.nodup_append]
    exact ⟨hr.1, by simp, fun x hx y hy q => hal ((q.trans (List.mem_singleton.mp hy)) ▸ hx)⟩
  rw [e]
  refine ⟨putK_nodup T.keys _ _, fun q hq => ?_, fun q hq x hx => ?_, fun d hd => ?_⟩
  · rcases putK_mem hq with h | h
    · exact T.rows q h
    · rw [h]; exact hn
  · rcases putK_mem hq with h | h
    · exact ⟨(T.from_ q h x hx).1, List.mem_append_left _ (T.from_ q h x hx).2⟩
    · rw [h] at hx ⊢
      rcases List.mem_append.mp hx with z | z
      · exact ⟨(hr.2 x z).1, List.mem_append_left _ (hr.2 x z).2⟩
      · rw [List.mem_singleton] at z
        exact ⟨by rw [z], by rw [z]; simp⟩
  · rw [getK_putK]
    rcases List.mem_append.mp hd with z | z
    · obtain ⟨l, e1, e2⟩ := T.has d z
      by_cases q : nx a = nx d
      · rw [if_pos q]
        refine ⟨_, rfl, List.mem_append_left _ ?_⟩
        rw [q, e1]; exact e2
      · rw [if_neg q]; exact ⟨l, e1, e2⟩
    · rw [List.mem_singleton] at z
      subst z
      rw [if_pos rfl]
      exact ⟨_, rfl, by simp⟩
noncomputable abbrev valT (f : Nat → Int) (tb : List (Nat × List Nat)) : List (Nat × List (Nat × Int)) := tb.map fun q => (q.1, q.2.map fun c => (c, f c))
theorem copy_row (f : Nat → Int) {l : List Nat} (h : l.Nodup) : (l.map fun c => (c, f c)).foldl (fun n p => putK n p.1 p.2) [] = l.map fun c => (c, f c) := by
  have e : (l.map fun c => (c, f c)).map (·.1) = l := by rw [List.map_map]; exact List.map_id l
  rw [copy_eq _ _ (by rw [List.nil_append, e]; exact h), List.nil_append]
theorem prof_first (nx : Nat → Nat) (lot : Int) (cs : List Nat) : ∀ (done : List Nat) (tb : List (Nat × List Nat)), TabOk nx done tb → (done ++ cs).Nodup →
    cs.foldl (profStep (fun a b : Int => a + b) nx lot) (valT (fun _ => lot) tb) = valT (fun _ => lot) (cs.foldl (plainS nx) tb) ∧ TabOk nx (done ++ cs) (cs.foldl (plainS nx) tb) := by
  induction cs with
  | nil => intro done tb T _; exact ⟨rfl, by simpa using T⟩
  | cons a r ih =>
    intro done tb T hn
    have ha : a ∉ done := fun h => by
      rw [List.nodup_append] at hn
      exact hn.2.2 a h a (.head _) rfl
    have hr := T.row (nx a)
    have hal : a ∉ (getK tb (nx a)).getD [] := fun h => ha (hr.2 a h).2
    have e : profStep (fun a b : Int => a + b) nx lot (valT (fun _ => lot) tb) a = valT (fun _ => lot) (plainS nx tb a) := by
      unfold profStep plainS
      have g1 : (getK (valT (fun _ => lot) tb) (nx a)).getD [] = ((getK tb (nx a)).getD []).map fun c => (c, lot) := by
        rw [getK_map (fun l : List Nat => l.map fun c => (c, lot))]
        cases getK tb (nx a) <;> rfl
      have g2 : addC (fun a b : Int => a + b) (((getK tb (nx a)).getD []).map fun c => (c, lot)) [(a, lot)] = (putU ((getK tb (nx a)).getD []) a).map fun c => (c, lot) := by
        unfold addC
        rw [copy_row (fun _ => lot) hr.1, List.foldl_cons, List.foldl_nil]
        have gn : getK (((getK tb (nx a)).getD []).map fun c => (c, lot)) a = none := getK_notin (by
          have e : (((getK tb (nx a)).getD []).map fun c => (c, lot)).map (·.1) = (getK tb (nx a)).getD [] := by rw [List.map_map]; exact List.map_id _
          rw [e]; exact hal)
        rw [bumpK_none (q := (a, lot)) gn, putK_none gn, putU_new hal]
        simp
      rw [g1, g2]
      exact putK_map (fun l : List Nat => l.map fun c => (c, lot)) tb (nx a) _
    rw [List.foldl_cons, List.foldl_cons, e]
    have := ih (done ++ [a]) (plainS nx tb a) (T.step ha) (by simpa using hn)
    simpa using this
theorem prof_second (nx : Nat → Nat) (lot : Int) (tb : List (Nat × List Nat)) (done : List Nat) (T : TabOk nx done tb) (ds : List Nat) : ∀ (f : Nat → Int), ds.Nodup → (∀ d ∈ ds, d ∈ done) →
    ds.foldl (profStep (fun a b : Int => a + b) nx lot) (valT f tb) = valT (fun x => if x ∈ ds then f x + lot else f x) tb := by
  induction ds with
  | nil => intro f _ _; simp
  | cons a r ih =>
    intro f hn hd
    rw [List.nodup_cons] at hn
    obtain ⟨l, e1, e2⟩ := T.has a (hd a (.head _))
    have hl := T.rows _ (mem_getK e1)
    have e : profStep (fun a b : Int => a + b) nx lot (valT f tb) a = valT (fun x => if x = a then f a + lot else f x) tb := by
      unfold profStep
      rw [getK_map (fun l : List Nat => l.map fun c => (c, f c)), e1]
      show putK (valT f tb) (nx a) (addC _ (l.map fun c => (c, f c)) [(a, lot)]) = _
      unfold addC
      rw [copy_row f hl, List.foldl_cons, List.foldl_nil, bumpK_some (q := (a, lot)) (getK_mapped f e2), putK_one f hl _ e2]
      refine putK_rows (F := fun l : List Nat => l.map fun c => (c, f c)) (F' := fun l : List Nat => l.map fun c => (c, if c = a then f a + lot else f c)) T.keys e1 fun q hq hk => ?_
      refine List.map_congr_left fun c hc => ?_
      have : ¬ c = a := fun e => hk (by rw [← e]; exact (T.from_ q hq c hc).1.symm)
      rw [if_neg this]
    rw [List.foldl_cons, e, ih _ hn.2 fun d h => hd d (.tail _ h)]
    congr 1
    funext x
    by_cases q : x = a
    · subst q
      simp [hn.1]
    · simp [q]
theorem prof_plain (nx : Nat → Nat) (N : Nat) (share : Int) : profF (fun a b : Int => a + b) nx (List.range N) [share - 7, 7] = (plainF nx (List.range N)).map fun q => (q.1, q.2.map fun c => (c, share)) := by
  have h1 := prof_first nx (share - 7) (List.range N) [] [] ⟨List.nodup_nil, (fun _ h => nomatch h), (fun _ h => nomatch h), (fun _ h => nomatch h)⟩ (by simpa using List.nodup_range)
  rw [List.nil_append] at h1
  obtain ⟨h1, T⟩ := h1
  have h2 := prof_second nx 7 _ _ T (List.range N) (fun _ => share - 7) List.nodup_range fun _ h => h
  unfold profF
  rw [List.foldl_cons, List.foldl_cons, List.foldl_nil]
  rw [show (List.range N).foldl (profStep (fun a b : Int => a + b) nx (share - 7)) [] = _ from h1, h2]
  refine List.map_congr_left fun q hq => ?_
  congr 1
  refine List.map_congr_left fun c hc => ?_
  show (c, if c ∈ List.range N then share - 7 + 7 else share - 7) = _
  rw [if_pos (T.from_ q hq c hc).2]
  congr 1
  omega
end
-- PCase
noncomputable def restT (p sz c i : Nat) : Str := Txt.join (Str.ofString ".") ((winS p sz c).take (sz - i))
noncomputable def tailT (p sz c : Nat) : Str := restT p sz c 1 ++ Str.ofString "\n"
noncomputable def cutB (x y : Str) : Bool := match cutIP x.cps with | some (b, e) => decide (cutP x b e = y) | none => false
noncomputable def chkW (p sz c : Nat) : Bool :=
  decide ((winT p sz c).length ≤ 50) && decide (Txt.slice (winT p sz c) none (some (-1)) = restT p sz c 0) &&
  ((List.range sz).all fun i => decide ((restT p sz c i).length ≤ 50) && !(restT p sz c i == Str.ofString "~") && ((restT p sz c i).cps.toList.all fun x => decide (x ≠ 10) && decide (x ≠ 58)) &&
    decide (PySem.intText? (lastPart (restT p sz c i)) = some ((digN p c i : Nat) : Int)) && decide ((lastPart (restT p sz c i)).length ≤ 50) && decide (digN p c i < 2 ^ 20)) &&
  ((List.range (sz - 1)).all fun i => cutB (restT p sz c i) (restT p sz c (i + 1))) &&
  cutB (winT p sz c) (tailT p sz c) && decide ((tailT p sz c).length ≤ 50) &&
  ((List.range p).all fun d => decide (Str.ofString (toString ((d : Nat) : Int)) ++ (Str.ofString "." ++ tailT p sz c) = winT p sz (c / p + d * p ^ (sz - 1))))
theorem chkW_ok {p sz c : Nat} (h : chkW p sz c = true) : NextOk (winT p sz c) sz (fun i => ((digN p c i : Nat) : Int)) (restT p sz c) (tailT p sz c) ∧
    ∀ d, d < p → Str.ofString (toString ((d : Nat) : Int)) ++ (Str.ofString "." ++ tailT p sz c) = winT p sz (c / p + d * p ^ (sz - 1)) := by
  simp only [chkW, Bool.and_eq_true, decide_eq_true_eq, List.all_eq_true, List.mem_range, Bool.not_eq_true'] at h
  obtain ⟨⟨⟨⟨⟨⟨h1, h2⟩, h3⟩, h4⟩, h5⟩, h6⟩, h7⟩ := h
  have cb : ∀ {x y : Str}, cutB x y = true → ∃ b e, cutIP x.cps = some (b, e) ∧ cutP x b e = y := by
    intro x y h
    unfold cutB at h
    split at h
    · exact ⟨_, _, by assumption, of_decide_eq_true h⟩
    · cases h
  refine ⟨⟨h1, h2, fun i hi => (h3 i hi).1.1.1.1.1, fun i hi => (h3 i hi).1.1.1.1.2, fun i hi c hc => (h3 i hi).1.1.1.2 c hc, fun i hi => ⟨(h3 i hi).1.1.2, (h3 i hi).1.2, ?_⟩, fun i hi => cb (h4 i (by omega)), ?_⟩, h7⟩
  · have := (h3 i hi).2
    rw [Int.natAbs_natCast]; exact this
  · obtain ⟨b, e, x, y⟩ := cb h5
    exact ⟨b, e, x, y, h6⟩
noncomputable def chkM (p sz t m : Nat) : Bool :=
  decide (struckF (plainF (nxN (tsP p sz t) m p) (List.range (p ^ sz))) 100 (List.range (p ^ sz)) = some (dueL p sz (lowP p sz t))) &&
  ((List.range 8).all fun k => decide (dueP (tsP p sz t) m p (k + 1) = some ((retP (nxN (tsP p sz t) m p) (List.range (p ^ sz)) (k + 1) : Nat) : Int))) &&
  ((List.range (p ^ sz)).all fun c => decide (nxN (tsP p sz t) m p c < p ^ sz))
noncomputable def chkT (p sz t : Nat) : Bool := (List.range p).all fun m => chkM p sz t m
theorem all_of {f : Nat → Bool} {a n : Nat} (h : (List.range' a n).all f = true) {t : Nat} (h1 : a ≤ t) (h2 : t < a + n) : f t = true :=
  List.all_eq_true.mp h t (List.mem_range'_1.mpr ⟨h1, h2⟩)
theorem t23_0 : (List.range' 0 8).all (chkT 2 3) = true := by decide +kernel
theorem t23 (t : Nat) (h : t < 8) : chkT 2 3 t = true := by
  exact all_of t23_0 (by omega) (by omega)
theorem w23_0 : (List.range' 0 8).all (chkW 2 3) = true := by decide +kernel
theorem w23 (t : Nat) (h : t < 8) : chkW 2 3 t = true := by
  exact all_of w23_0 (by omega) (by omega)
theorem n23 : ((List.range 8).map (winT 2 3)).Nodup := by decide +kernel
theorem t32_0 : (List.range' 0 8).all (chkT 3 2) = true := by decide +kernel
theorem t32_8 : (List.range' 8 1).all (chkT 3 2) = true := by decide +kernel
theorem t32 (t : Nat) (h : t < 9) : chkT 3 2 t = true := by
  by_cases h0 : t < 8
  · exact all_of t32_0 (by omega) (by omega)
  exact all_of t32_8 (by omega) (by omega)
theorem w32_0 : (List.range' 0 9).all (chkW 3 2) = true := by decide +kernel
theorem w32 (t : Nat) (h : t < 9) : chkW 3 2 t = true := by
  exact all_of w32_0 (by omega) (by omega)
theorem n32 : ((List.range 9).map (winT 3 2)).Nodup := by decide +kernel
theorem t24_0 : (List.range' 0 8).all (chkT 2 4) = true := by decide +kernel
theorem t24_8 : (List.range' 8 8).all (chkT 2 4) = true := by decide +kernel
theorem t24 (t : Nat) (h : t < 16) : chkT 2 4 t = true := by
  by_cases h0 : t < 8
  · exact all_of t24_0 (by omega) (by omega)
  exact all_of t24_8 (by omega) (by omega)
theorem w24_0 : (List.range' 0 9).all (chkW 2 4) = true := by decide +kernel
theorem w24_9 : (List.range' 9 7).all (chkW 2 4) = true := by decide +kernel
theorem w24 (t : Nat) (h : t < 16) : chkW 2 4 t = true := by
  by_cases h0 : t < 9
  · exact all_of w24_0 (by omega) (by omega)
  exact all_of w24_9 (by omega) (by omega)
theorem n24 : ((List.range 16).map (winT 2 4)).Nodup := by decide +kernel
theorem t52_0 : (List.range' 0 5).all (chkT 5 2) = true := by decide +kernel
theorem t52_5 : (List.range' 5 5).all (chkT 5 2) = true := by decide +kernel
theorem t52_10 : (List.range' 10 5).all (chkT 5 2) = true := by decide +kernel
theorem t52_15 : (List.range' 15 5).all (chkT 5 2) = true := by decide +kernel
theorem t52_20 : (List.range' 20 5).all (chkT 5 2) = true := by decide +kernel
theorem t52 (t : Nat) (h : t < 25) : chkT 5 2 t = true := by
  by_cases h0 : t < 5
  · exact all_of t52_0 (by omega) (by omega)
  by_cases h5 : t < 10
  · exact all_of t52_5 (by omega) (by omega)
  by_cases h10 : t < 15
  · exact all_of t52_10 (by omega) (by omega)
  by_cases h15 : t < 20
  · exact all_of t52_15 (by omega) (by omega)
  exact all_of t52_20 (by omega) (by omega)
theorem w52_0 : (List.range' 0 9).all (chkW 5 2) = true := by decide +kernel
theorem w52_9 : (List.range' 9 9).all (chkW 5 2) = true := by decide +kernel
theorem w52_18 : (List.range' 18 7).all (chkW 5 2) = true := by decide +kernel
theorem w52 (t : Nat) (h : t < 25) : chkW 5 2 t = true := by
  by_cases h0 : t < 9
  · exact all_of w52_0 (by omega) (by omega)
  by_cases h9 : t < 18
  · exact all_of w52_9 (by omega) (by omega)
  exact all_of w52_18 (by omega) (by omega)
theorem n52 : ((List.range 25).map (winT 5 2)).Nodup := by decide +kernel
theorem case_t {p sz : Nat} (h : Case p sz) : ∀ t, t < p ^ sz → chkT p sz t = true := by
  rcases h with ⟨rfl, rfl⟩ | ⟨rfl, rfl⟩ | ⟨rfl, rfl⟩ | ⟨rfl, rfl⟩
  · exact t23
  · exact t32
  · exact t24
  · exact t52
theorem case_w {p sz : Nat} (h : Case p sz) : ∀ c, c < p ^ sz → chkW p sz c = true := by
  rcases h with ⟨rfl, rfl⟩ | ⟨rfl, rfl⟩ | ⟨rfl, rfl⟩ | ⟨rfl, rfl⟩
  · exact w23
  · exact w32
  · exact w24
  · exact w52
theorem case_n {p sz : Nat} (h : Case p sz) : ((List.range (p ^ sz)).map (winT p sz)).Nodup := by
  rcases h with ⟨rfl, rfl⟩ | ⟨rfl, rfl⟩ | ⟨rfl, rfl⟩ | ⟨rfl, rfl⟩
  · exact n23
  · exact n32
  · exact n24
  · exact n52
theorem map_inj {f : Nat → Str} {N : Nat} (h : ((List.range N).map f).Nodup) {a b : Nat} (ha : a < N) (hb : b < N) (e : f a = f b) : a = b := by
  have ea : ((List.range N).map f)[a]? = some (f a) := by rw [List.getElem?_map, List.getElem?_range ha]; rfl
  have eb : ((List.range N).map f)[b]? = some (f a) := by rw [List.getElem?_map, List.getElem?_range hb, e]; rfl
  exact (List.getElem?_inj (by simpa using ha) h).mp (ea.trans eb.symm)
theorem dig_mod {p sz code i : Nat} (hi : i < sz) : digN p code i = digN p (code % p ^ sz) i := by
  unfold digN
  have e : p ^ sz = p ^ i * p ^ (sz - i) := by rw [← Nat.pow_add]; congr 1; omega
  rw [e, Nat.mod_mul_right_div_self]
  have d : p ∣ p ^ (sz - i) := by
    obtain ⟨k, hk⟩ : ∃ k, sz - i = k + 1 := ⟨sz - i - 1, by omega⟩
    rw [hk, Nat.pow_succ]
    exact Nat.dvd_mul_left _ _
  rw [Nat.mod_mod_of_dvd _ d]
theorem tsP_mod (p sz code : Nat) : tsP p sz code = tsP p sz (code % p ^ sz) := by
  unfold tsP
  refine List.map_congr_left fun i hi => ?_
  rw [dig_mod (List.mem_range.mp hi)]
theorem lowP_mod (p sz code : Nat) : lowP p sz code = lowP p sz (code % p ^ sz) := by
  unfold lowP
  have : (List.range sz).filter (fun i => decide (digN p code i ≠ 0)) = (List.range sz).filter (fun i => decide (digN p (code % p ^ sz) i ≠ 0)) := by
    refine List.filter_congr fun i hi => ?_
    rw [dig_mod (List.mem_range.mp hi)]
  rw [this]
theorem bigT_len (c : Nat) : (bigT c).length = c + 60 := by
  unfold bigT Str.length
  simp
theorem nm_inj {p sz : Nat} (h : Case p sz) (a b : Nat) (e : nmP p sz a = nmP p sz b) : a = b := by
  have wl : ∀ c, c < p ^ sz → (winT p sz c).length ≤ 50 := fun c hc => (chkW_ok (case_w h c hc)).1.wl
  unfold nmP at e
  by_cases ha : a < p ^ sz <;> by_cases hb : b < p ^ sz
  · rw [if_pos ha, if_pos hb] at e
    exact map_inj (case_n h) ha hb e
  · rw [if_pos ha, if_neg hb] at e
    have := wl a ha
    rw [e, bigT_len] at this
    omega
  · rw [if_neg ha, if_pos hb] at e
    have := wl b hb
    rw [← e, bigT_len] at this
    omega
  · rw [if_neg ha, if_neg hb] at e
    have h1 := bigT_len a
    rw [e, bigT_len] at h1
    omega
theorem plain_law {p sz : Nat} (h : Case p sz) (code more : Nat) (hm : more < p) : PF p sz code more := by
  have hcs : 2 ≤ p ∧ 2 ≤ sz ∧ p ^ sz ≤ 25 := by
    rcases h with ⟨rfl, rfl⟩ | ⟨rfl, rfl⟩ | ⟨rfl, rfl⟩ | ⟨rfl, rfl⟩ <;> decide
  have hpp : 0 < p ^ sz := Nat.pow_pos (by omega)
  have hck := case_t h (code % p ^ sz) (Nat.mod_lt _ hpp)
  simp only [chkT, List.all_eq_true, List.mem_range] at hck
  have hck := hck more hm
  simp only [chkM, Bool.and_eq_true, decide_eq_true_eq, List.all_eq_true, List.mem_range] at hck
  rw [← tsP_mod, ← lowP_mod] at hck
  obtain ⟨⟨h1, h2⟩, h3⟩ := hck
  refine ⟨by omega, nm_inj h, fun c hc => ?_, h3, fun share => prof_plain _ _ share, h1, h2⟩
  obtain ⟨ok, nx⟩ := chkW_ok (case_w h c hc)
  refine ⟨_, _, ok, ?_⟩
  have hm0 : 0 ≤ (valN (tsP p sz code) more p c).fmod (p : Int) := Int.fmod_nonneg_of_pos _ (by omega)
  have hm1 : (valN (tsP p sz code) more p c).fmod (p : Int) < p := Int.fmod_lt_of_pos _ (by omega)
  have hd := nx ((valN (tsP p sz code) more p c).fmod (p : Int)).toNat (by omega)
  rw [Int.toNat_of_nonneg hm0] at hd
  rw [hd]
  unfold nmP
  rw [if_pos (h3 c hc)]
  have hl : (tsP p sz code).length = sz := by simp [tsP]
  unfold nxN
  rw [hl]
-- Fn14
section
variable {prog : Program} {w : World} {mean : ExcName → Option Value} {mg mb : Str → Option Value} {base : Heap} {A : Around} {s : Shared}
set_option maxHeartbeats 4000000
end
local macro_rules | `(tactic| walk_at "binaryOp Mult ref int") => `(tactic| ((rename St _ _ _ _ _ _ _ _ => S9); (refine' mul9L S9 (At.mono (St.getM S9 (.head _)) (fun _ x => PL.pi x)) ?b ?c ?z ?_; (case b => omega); (case c => omega); (case z => simp only [List.length_cons, List.length_nil]; omega)); clear S9; intro d9 h9 S))
section
variable {prog : Program} {w : World} {mean : ExcName → Option Value} {mg mb : Str → Option Value} {base : Heap} {A : Around} {s : Shared}
set_option maxHeartbeats 4000000
end
local macro_rules | `(tactic| walk_at "binaryOp Add ref ref") => `(tactic| ((rename St _ _ _ _ _ _ _ _ => S9); (refine' add9L S9 (At.mono (St.getM S9 ?a) (fun _ x => PL.pi x)) (At.mono (St.getM S9 ?b) (fun _ x => PL.pi x)) ?z ?_; (case a => walk_at "mem9"); (case b => walk_at "mem9"); (case z => first | assumption | (simp; omega))); clear S9; intro d9 h9 S))
section
variable {prog : Program} {w : World} {mean : ExcName → Option Value} {mg mb : Str → Option Value} {base : Heap} {A : Around} {s : Shared}
set_option maxHeartbeats 4000000
theorem itemR9 {E : Value → Shared → Prop} {Q : Value → Shared → Prop} {l : Addr} {vs : List Value} {value slice : Expr} {k : Int} {x : Value} {u : Tok} (hl : At s.heap.get? l (PI vs)) (h0 : 0 ≤ k) (hf : k < 100000) (hx : vs[k.toNat]? = some x) (h : Q x s)
    (hs : subscripted slice false (.ref l) (.int k u) = operate [.ref l, .int k u] (getItem (.ref l) (.int k u)) := by with_unfolding_all rfl)
    : wpAny (model prog w) A (subscriptTail value slice (.ref l) (.int k u)) Q E s :=
  tail_any hl.list.typeIs slot_list_getitem.lookup (wpAny_getItem_list hl.list h0 (by omega) (by simpa using hx) h) hs
theorem share_ok (n : Nat) : (2 * (n : Int).fmod (10 ^ Int.toNat 6) + 1 - 10 ^ Int.toNat 6) ≠ 0 ∧ (2 * (n : Int).fmod (10 ^ Int.toNat 6) + 1 - 10 ^ Int.toNat 6).natAbs < 2 ^ 24 := by
  have e6 : (10 : Int) ^ Int.toNat 6 = 1000000 := by decide +kernel
  rw [e6, Int.fmod_eq_emod_of_nonneg _ (by omega)]
  omega
theorem tsP_small {p sz code : Nat} {c : Int} (hp : 0 < p) (hp5 : p ≤ 10) (h : c ∈ tsP p sz code) : c.natAbs < 2 ^ 20 := by
  obtain ⟨i, _, rfl⟩ := List.mem_map.mp h
  have : digN p code i < p := Nat.mod_lt _ hp
  omega
theorem range_put {β : Type} {N i : Nat} (f : Nat → β) (h : i < N) : ((List.range N).map fun c => (c, f c)).take (i + 1) = putK (((List.range N).map fun c => (c, f c)).take i) i (f i) := by
  have e : ((List.range N).map fun c => (c, f c))[i]? = some (i, f i) := by rw [List.getElem?_map, List.getElem?_range h]; rfl
  rw [List.take_add_one, e, putK_none]
  · rfl
  · refine getK_notin ?_
    rw [← List.map_take, List.map_map]
    intro hm
    obtain ⟨j, hj, q⟩ := List.mem_map.mp hm
    rw [List.take_range] at hj
    have := List.mem_range.mp hj
    have q' : j = i := q
    omega
theorem low_yes {p code i : Nat} (h : digN p code i ≠ 0) : ((List.range (i + 1)).filter fun j => digN p code j ≠ 0).map (fun j => ((j : Nat) : Int)) = (((List.range i).filter fun j => digN p code j ≠ 0).map fun j => ((j : Nat) : Int)) ++ [(i : Int)] := by
  rw [List.range_succ, List.filter_append, List.map_append]
  simp [h]
theorem low_no {p code i : Nat} (h : digN p code i = 0) : ((List.range (i + 1)).filter fun j => digN p code j ≠ 0).map (fun j => ((j : Nat) : Int)) = (((List.range i).filter fun j => digN p code j ≠ 0).map fun j => ((j : Nat) : Int)) := by
  rw [List.range_succ, List.filter_append, List.map_append]
  simp [h]
theorem itemT9 {E Q : Value → Shared → Prop} {l : Addr} {value slice : Expr} {ns : List Int} {k c : Int} {u : Tok} (hl : At s.heap.get? l (LI ns)) (h0 : 0 ≤ k) (hf : k < 100000) (hx : ns[k.toNat]? = some c) (h : ∀ t, Q (.int c t) s)
    (hs : subscripted slice false (.ref l) (.int k u) = operate [.ref l, .int k u] (getItem (.ref l) (.int k u)) := by with_unfolding_all rfl) : wpAny (model prog w) A (subscriptTail value slice (.ref l) (.int k u)) Q E s := by
  obtain ⟨vs, p, q⟩ := LI.list hl
  obtain ⟨t, e⟩ := IntsAre.at9 q hx
  exact tail_any p.typeIs slot_list_getitem.lookup (wpAny_getItem_list p h0 (by omega) (by simpa using e) (h t)) hs
theorem rep_ints (n : Nat) (x : Int) (t : Tok) : IntsAre (List.replicate n [Value.int x t]).flatten (List.replicate n x) := by
  induction n with
  | zero => exact .nil
  | succ n ih => exact .cons x t ih
theorem low_item (p sz code : Nat) : ((((List.range sz).filter fun j => digN p code j ≠ 0).map fun j => ((j : Nat) : Int)) ++ [(sz : Int)])[(0 : Int).toNat]? = some ((lowP p sz code : Nat) : Int) := by
  unfold lowP
  cases (List.range sz).filter fun j => digN p code j ≠ 0 with
  | nil => rfl
  | cons a r => rfl
theorem low_le (p sz code : Nat) : lowP p sz code ≤ sz := by
  unfold lowP
  cases h : (List.range sz).filter fun j => digN p code j ≠ 0 with
  | nil => exact Nat.le_refl _
  | cons a r =>
    have : a ∈ (List.range sz).filter fun j => digN p code j ≠ 0 := by rw [h]; exact .head _
    have := List.mem_range.mp (List.mem_filter.mp this).1
    show a ≤ sz
    omega
theorem pick_case {G : View} {l a b c d : Addr} {n0 : Int} {t1 t2 t3 t4 t5 t6 t7 t8 : Tok} (hl : At G l (PL [.ref a, .ref b, .ref c, .ref d]))
    (ha : At G a (PT [.int 2 t1, .int 3 t2])) (hb : At G b (PT [.int 3 t3, .int 2 t4])) (hc : At G c (PT [.int 2 t5, .int 4 t6])) (hd : At G d (PT [.int 5 t7, .int 2 t8])) :
    ∃ vs p sz T u1 u2, Case p sz ∧ At G l (PI vs) ∧ vs[(n0.fmod 4).toNat]? = some (.ref T) ∧ At G T (PT [.int (p : Nat) u1, .int (sz : Nat) u2]) := by
  have h0 : 0 ≤ n0.fmod 4 := Int.fmod_nonneg_of_pos _ (by decide)
  have h4 : n0.fmod 4 < 4 := Int.fmod_lt_of_pos _ (by decide)
  have : (n0.fmod 4).toNat = 0 ∨ (n0.fmod 4).toNat = 1 ∨ (n0.fmod 4).toNat = 2 ∨ (n0.fmod 4).toNat = 3 := by omega
  rcases this with e | e | e | e <;> rw [e]
  · exact ⟨_, 2, 3, a, t1, t2, .inl ⟨rfl, rfl⟩, hl.mono fun _ x => x.pi, rfl, ha⟩
  · exact ⟨_, 3, 2, b, t3, t4, .inr (.inl ⟨rfl, rfl⟩), hl.mono fun _ x => x.pi, rfl, hb⟩
  · exact ⟨_, 2, 4, c, t5, t6, .inr (.inr (.inl ⟨rfl, rfl⟩)), hl.mono fun _ x => x.pi, rfl, hc⟩
  · exact ⟨_, 5, 2, d, t7, t8, .inr (.inr (.inr ⟨rfl, rfl⟩)), hl.mono fun _ x => x.pi, rfl, hd⟩
set_option maxHeartbeats 40000000 in
theorem law_c {l : Addr} {ns : List Int} (C : Cx w mean mg mb base) (hb0 : Sub base.get? s.heap.get?) (R : Room A 4) (hl : At s.heap.get? l (LI ns)) (hn : ns.length ≤ 63) (HP : ∀ p sz, Case p sz → ∀ code more, more < p → PF p sz code more) :
    codeAny (model prog w) A (.call (.ref 185) ⟨[.ref l], []⟩) (fun r s' => ∃ v, r = .ok (.ret v) ∧ Keeps s s' ∧ v = .bool true) s := by
  refine' enterC (Post := fun v => v = .bool true) (binds := [("script", .ref l)]) (m := fun z => if z = "script" then some (.ref l) else none) (cv := fun _ => none) C hb0 R ?ho ?hcd ?hbind ?hkind ?hnd ?hm ?hc ?h ?c1 ?c2 ?c3
  walk_at "my_enter"
  intro L h₁ tk S
  have hb3 : s.heap.get? 3 ≠ none := by rw [hb0 _ _ (C.X _ _ (by k_is))]; simp
  walk_at "go"
  rename St _ _ _ _ _ _ _ _ => S
  refine use (sum_c C (hb0.trans S.keepO) (R.deeper.less (by omega)) (S.getO hl) hn) S ?_
  rintro v h' tk V2 hV2 S ⟨F, hF, n0, t0, rfl, hn0, hn1⟩
  walk_at "go"
  rename St _ _ _ _ _ _ _ _ => S
  obtain ⟨V3, S, hV3, hA1⟩ := S.freeze (pre := []) rfl
  obtain ⟨V4, S, hV4, hA2⟩ := S.freeze (pre := []) rfl
  obtain ⟨V5, S, hV5, hA3⟩ := S.freeze (pre := []) rfl
  obtain ⟨V6, S, hV6, hA4⟩ := S.freeze (pre := []) rfl
  obtain ⟨V7, S, hV7, hA5⟩ := S.freeze (pre := []) rfl
  obtain ⟨vs4, p, sz, T, u1, u2, hcase, hl4, hx4, hT4⟩ := pick_case (n0 := n0) (hA1.sub (hV4.trans (hV5.trans (hV6.trans hV7)))) (hA5) (hA4.sub hV7) (hA3.sub (hV6.trans hV7)) (hA2.sub (hV5.trans (hV6.trans hV7)))
  clear hA1 hA2 hA3 hA4 hA5 hV4 hV5 hV6 hV7 hV3 hV2
  have h40 : 0 ≤ n0.fmod 4 := Int.fmod_nonneg_of_pos _ (by decide)
  have h44 : n0.fmod 4 < 4 := Int.fmod_lt_of_pos _ (by decide)
  refine itemR9 (S.getV hl4) h40 (by omega) hx4 ?_
  walk_at "go"
  rename St _ _ _ _ _ _ _ _ => S
  have hcs : 2 ≤ p ∧ p ≤ 5 ∧ 2 ≤ sz ∧ sz ≤ 4 ∧ p ^ sz ≤ 25 := by
    rcases hcase with ⟨rfl, rfl⟩ | ⟨rfl, rfl⟩ | ⟨rfl, rfl⟩ | ⟨rfl, rfl⟩ <;> decide
  obtain ⟨hp2, hp5, hs2, hs4, hN25⟩ := hcs
  refine use (sum_c C (hb0.trans S.keepO) (R.deeper.less (by omega)) (S.getO hl) hn) S ?_
  rintro v h' tk V8 hV8 S ⟨F, hF, n1, t1, rfl, hn10, hn11⟩
  obtain ⟨n1, rfl⟩ := Int.eq_ofNat_of_zero_le hn10
  have hcode : (6 : Int) + (n1 : Int) = ((6 + n1 : Nat) : Int) := by omega
  walk_at "go"
  rename St _ _ _ _ _ _ _ _ => S
  rename IsRange _ _ _ _ _ _ _ _ => hr9
  rw [hcode] at S
  generalize 6 + n1 = code at S hcode
  have hpc : (p : Int) ≠ 0 := by omega
  refine src_rng R.h S hr9 (by omega) fun I fp wr Sti h X => ?_
  refine lcE_src X S (by decide) rfl rfl (by rw [sizeLine_eq]; omega) (fun i V ys => IntsAre ys ((tsP p sz code).take i)) .nil ?turn ?done
  case turn =>
    rintro i v C1 D V' ys mC hb h tk hi ⟨ti, rfl⟩ hV hm S
    clear X
    have hp0 : 0 < p ^ i := Nat.pow_pos (by omega)
    have hp8 : p ^ i ≤ 10 ^ 8 := Nat.le_trans (Nat.pow_le_pow_left (by omega : p ≤ 10) _) (Nat.pow_le_pow_right (by decide) (by omega))
    have hcast : ((p : Int) ^ ((i : Nat) : Int).toNat) = ((p ^ i : Nat) : Int) := by rw [Int.toNat_natCast]; push_cast; rfl
    have hdig : ((code : Int).fdiv ((p ^ i : Nat) : Int)).fmod (p : Int) = ((digN p code i : Nat) : Int) := by
      unfold digN
      rw [Int.fdiv_eq_ediv_of_nonneg _ (by omega), Int.fmod_eq_emod_of_nonneg _ (by omega)]
      push_cast; rfl
    walk_at "go"
    rename St _ _ _ _ _ _ _ _ => S
    refine Elt.go S (Sub.refl _) ?_
    have hg : (tsP p sz code)[i]? = some ((digN p code i : Nat) : Int) := by
      unfold tsP
      rw [List.getElem?_map, List.getElem?_range hi]; rfl
    rw [hcast, hdig, List.take_add_one, hg]
    exact IntsAre.snoc hm _ _
  rintro D V' ys h tk hV hm S
  clear X
  have htl : (tsP p sz code).length = sz := by simp [tsP]
  rw [List.take_of_length_le (by omega)] at hm
  obtain ⟨V9, S, hV9, hA9⟩ := S.freeze (pre := []) rfl
  have htaps : At V9 D (LI (tsP p sz code)) := hA9.mono fun _ x => PL.li x hm
  clear hA9 hV9 hV hm hV8
  walk_at "go"
  rename St _ _ _ _ _ _ _ _ => S
  refine use (sum_c C (hb0.trans S.keepO) (R.deeper.less (by omega)) (S.getO hl) hn) S ?_
  rintro v h' tk V10 hV10 S ⟨F, hF, n2, t2, rfl, hn20, hn21⟩
  obtain ⟨n2, rfl⟩ := Int.eq_ofNat_of_zero_le hn20
  have hmore : ((1 : Int) + (n2 : Int)).fmod (p : Int) = (((1 + n2) % p : Nat) : Int) := by
    rw [Int.fmod_eq_emod_of_nonneg _ (by omega)]; push_cast; rfl
  walk_at "go"
  rename St _ _ _ _ _ _ _ _ => S
  rw [hmore] at S
  have hmp : (1 + n2) % p < p := Nat.mod_lt _ (by omega)
  generalize (1 + n2) % p = more at S hmp
  refine use (sum_c C (hb0.trans S.keepO) (R.deeper.less (by omega)) (S.getO hl) hn) S ?_
  rintro v h' tk V11 hV11 S ⟨F, hF, n3, t3, rfl, hn30, hn31⟩
  obtain ⟨n3, rfl⟩ := Int.eq_ofNat_of_zero_le hn30
  walk_at "go"
  rename St _ _ _ _ _ _ _ _ => S
  obtain ⟨PPN, PP8, PP9, PP7, PP6, PP5, PP4⟩ := HP p sz hcase code more hmp
  have hpN : (p : Int) ^ ((sz : Nat) : Int).toNat = ((p ^ sz : Nat) : Int) := by rw [Int.toNat_natCast]; push_cast; rfl
  have hpp : 0 < p ^ sz := Nat.pow_pos (by omega)
  obtain ⟨m, S, m1⟩ : ∃ m, St s.heap.get? V11 L m _ _ [] _ ∧ m "script" = some (.ref l) := ⟨_, S, rfl⟩
  obtain ⟨cv, share, S, ⟨tp, c1⟩, ⟨tz, c2⟩, ⟨tc, c3⟩, c4, ⟨tm, c5⟩, ⟨th, c6⟩, hsh0, hsh24⟩ : ∃ cv share, St s.heap.get? V11 L m _ cv [] _ ∧ (∃ t, cv "prime" = some (.int p t)) ∧ (∃ t, cv "size" = some (.int sz t)) ∧ (∃ t, cv "code" = some (.int code t)) ∧ cv "taps" = some (.ref D) ∧ (∃ t, cv "more" = some (.int more t)) ∧ (∃ t, cv "share" = some (.int share t)) ∧ share ≠ 0 ∧ share.natAbs < 2 ^ 24 :=
    ⟨_, _, S, ⟨_, rfl⟩, ⟨_, rfl⟩, ⟨_, rfl⟩, rfl, ⟨_, rfl⟩, ⟨_, rfl⟩, share_ok n3⟩
  walk_at "my_lcA"
  walk_at "go"
  rename St _ _ _ _ _ _ _ _ => S
  rename IsRange _ _ _ _ _ _ _ _ => hr9
  rw [hpN] at hr9
  refine src_rng R.h S hr9 (by omega) fun I fp wr Sti h X => ?_
  refine lcA_src X S (by decide) rfl rfl (by rw [sizeLine_eq]; omega) rfl rfl (fun j V ys => StrsAre ys (((List.range (p ^ sz)).map (nmP p sz)).take j)) .nil ?turn2 ?done2
  case turn2 =>
    rintro i v C1 D2 V2 ys mC hb h tk hi ⟨ti, rfl⟩ hV2 hm S
    clear X
    walk_at "go"
    rename St _ _ _ _ _ _ _ _ => S
    refine use (window_c (c := i) (p := p) (sz := sz) C (hb0.trans S.keepO) (R.deeper.less (by omega)) (by omega) (by omega) (by omega) (by omega) (by omega)) S ?_
    rintro v h' tk V3 hV3 S ⟨F, hF, t7, rfl⟩
    walk_at "go"
    rename St _ _ _ _ _ _ _ _ => S
    refine Elt.go S hV3 ?_
    have hg : ((List.range (p ^ sz)).map (nmP p sz))[i]? = some (winT p sz i) := by
      rw [List.getElem?_map, List.getElem?_range hi]
      show some (nmP p sz i) = _
      unfold nmP
      rw [if_pos hi]
    rw [List.take_add_one, hg]
    exact StrsAre.snoc hm _ _
  rintro D2 V2 ys h tk hV2 hm S
  clear X
  rw [List.take_of_length_le (by simp)] at hm
  obtain ⟨V12, S, hV12, hA12⟩ := S.freeze (pre := []) rfl
  have hwin : At V12 D2 (LS ((List.range (p ^ sz)).map (nmP p sz))) := hA12.mono fun _ x => ⟨_, x.pi, hm⟩
  clear hA12 hm
  replace htaps := htaps.sub (hV10.trans (hV11.trans (hV2.trans hV12)))
  clear hV10 hV11 hV2 hV12
  walk_at "go"
  rename St _ _ _ _ _ _ _ _ => S
  obtain ⟨wvs, hwp, hwi, hwl⟩ := LS.old (O := s.heap.get?) (.inr hwin)
  rw [List.length_map, List.length_range] at hwl
  have hts : ∀ c ∈ tsP p sz code, c.natAbs < 2 ^ 20 := fun c hc => tsP_small (by omega) (by omega) hc
  generalize hnx : nxN (tsP p sz code) more p = nx at PP9 PP7 PP6 PP5 PP4
  walk_at "my_dcA"
  walk_at "go"
  rename St _ _ _ _ _ _ _ _ => S
  refine src_list R.h S hwp fun I fp wr Sti h X => ?_
  refine dcA_src X S hb3 (by decide) rfl rfl (by rw [sizeLine_eq]; omega) rfl rfl (fun j V kvs => KvR (nmP p sz) (isS (nmP p sz)) kvs (((List.range (p ^ sz)).map (fun c => (c, nx c))).take j)) .nil ?turn3 ?done3
  case turn3 =>
    rintro i v C1 D3 V3 kvs mC hb h tk hi hv hV3 hm3 S
    clear X
    have hiN : i < p ^ sz := by omega
    obtain ⟨x, tx, rfl, hx⟩ := StrsAre.val hwi hv
    rw [List.getElem?_map, List.getElem?_range hiN] at hx
    cases hx
    have hni : nmP p sz i = winT p sz i := if_pos hiN
    obtain ⟨Rs, tail, hok, hnext⟩ := PP9 i hiN
    walk_at "go"
    rename St _ _ _ _ _ _ _ _ => S
    refine use (next_c (W := nmP p sz i) (Rs := Rs) (tail := tail) (d := fun i' => ((digN p i i' : Nat) : Int)) C (hb0.trans S.keepO) (R.deeper.less (by omega)) (by rw [hni, htl]; exact hok) (by omega) (S.getV (htaps.sub hV3)) (by omega) (by omega) (by omega) hts (by omega) (by omega)) S ?_
    rintro v h' tk V4 hV4 S ⟨F, hF, t9, rfl⟩
    walk_at "go"
    rename St _ _ _ _ _ _ _ _ => S
    have hnd : (kvs.map (·.1)).Nodup := by
      obtain ⟨_, _, q⟩ := S.getM (P := PD prog w kvs) (by walk_at "mem9")
      exact q.nodup
    refine ⟨_, _, rfl, Elt.go S hV4 ?_⟩
    rw [range_put _ hiN]
    exact hm3.put PP8 hnd i ⟨t9, by rw [← hnext]; rfl⟩
  rintro D3 V3 kvs h tk hsm hV3 hm3 S
  clear X
  rw [List.take_of_length_le (by simp; omega)] at hm3
  obtain ⟨V13, S, hV13, hgd⟩ := S.freeze (pre := []) rfl
  walk_at "go"
  rename St _ _ _ _ _ _ _ _ => S
  refine use (profile_c (nm := nmP p sz) (cs := List.range (p ^ sz)) (nx := nx) C (hb0.trans S.keepO) (R.deeper.less (by omega)) PP8 hsm (S.getV hgd) hm3 rfl (fun c hc => getK_mapped nx hc) (by rw [List.length_range]; omega)) S ?_
  rintro v h' tk V14 hV14 S ⟨F1, hF1, dt, kt, rfl, hdt, hAt, hkt⟩
  rw [PP6 share] at hkt
  walk_at "go"
  rename St _ _ _ _ _ _ _ _ => S
  have hV := hV3.trans (hV13.trans hV14)
  refine use (plain_c (nm := nmP p sz) (N := p ^ sz) (p := p) (ts := tsP p sz code) (more := more) C (hb0.trans S.keepO) (R.deeper.less (by omega)) PP8 (S.getV (hwin.sub hV)) (S.getV (htaps.sub hV)) (by omega) (by omega) (by omega) (by omega) (by omega) (by omega) hts (by rw [hnx]; exact PP7)) S ?_
  rintro v h' tk V15 hV15 S ⟨F2, hF2, dp, kp, rfl, hdp, hAp, hkp⟩
  rw [hnx] at hkp
  walk_at "go"
  rename St _ _ _ _ _ _ _ _ => S
  have hu9 : (A.units + 3) + 64 < cLine := by have := R.u; omega
  refine ne_tables (nm := nmP p sz) (share := share) PP8 hdt hdp (S.getV ((hAt.sub hF1).sub hV15)) (S.getV (hAp.sub hF2)) (hkt.unmap.mono (RT.sub (hF1.trans (hV15.trans S.keepV)))) (hkp.mono (RT.sub (hF2.trans S.keepV))) (Nat.lt_of_le_of_lt (Nat.le_add_right _ 64) hu9) (by show (A.units + 3) + 1 < cLine; omega) ?_
  walk_at "go"
  rename St _ _ _ _ _ _ _ _ => S
  rename IsRange _ _ _ _ _ _ _ _ => hr9
  replace htaps := htaps.sub (hV.trans hV15)
  replace hwin := hwin.sub (hV.trans hV15)
  replace hgd := hgd.sub (hV14.trans hV15)
  replace hAt := (hAt.sub hF1).sub hV15
  replace hkt := hkt.unmap.mono (RT.sub (hF1.trans hV15))
  clear hkp hAp hF2 hF1 hV15 hV14 hV13 hV3 hV
  refine src_rng R.h S hr9 (by omega) fun I fp wr Sti h X => ?_
  refine lcE_src X S (by decide) rfl rfl (by rw [sizeLine_eq]; omega) (fun i V ys => IntsAre ys (((List.range i).filter fun j => digN p code j ≠ 0).map fun j => ((j : Nat) : Int))) .nil ?turn4 ?done4
  case turn4 =>
    rintro i v C1 D4 V4 ys mC hb h tk hi ⟨ti, rfl⟩ hV4 hm4 S
    clear X
    have hx : (tsP p sz code)[((i : Nat) : Int).toNat]? = some ((digN p code i : Nat) : Int) := by
      unfold tsP
      rw [Int.toNat_natCast, List.getElem?_map, List.getElem?_range hi]; rfl
    walk_at "go"
    rename St _ _ _ _ _ _ _ _ => S
    refine itemI9 (S.getV (htaps.sub hV4)) (by omega) (by omega) hx ?_
    intro tx
    walk_at "go"
    · rename (_ : Int) ≠ 0 => hne
      rename St _ _ _ _ _ _ _ _ => S
      refine Elt.go S (Sub.refl _) ?_
      rw [low_yes (by omega)]
      exact IntsAre.snoc hm4 _ _
    · rename (_ : Int) = 0 => hne
      rename St _ _ _ _ _ _ _ _ => S
      refine Elt.go S (Sub.refl _) ?_
      rw [low_no (by omega)]
      exact hm4
  rintro D4 V4 ys h tk hV4 hm4 S
  clear X
  have hyl : ys.length ≤ sz := by
    have h1 := hm4.length
    have h2 := List.length_filter_le (fun j => decide (digN p code j ≠ 0)) (List.range sz)
    rw [List.length_map] at h1
    rw [List.length_range] at h2
    omega
  walk_at "go"
  rename St _ _ _ _ _ _ _ _ => S
  have hlow := low_item p sz code
  refine itemT9 ((S.getM (.head _)).mono fun _ x => PL.li x (IntsAre.snoc hm4 _ _)) (by decide) (by decide) hlow ?_
  intro tlow
  have S0 := S.tail.tail.tail
  clear S hm4 hyl
  have hlz := low_le p sz code
  generalize hlw : lowP p sz code = low at PP5 hlz hlow
  have S := S0
  clear S0
  walk_at "go"
  rename St _ _ _ _ _ _ _ _ => S
  rename IsRange _ _ _ _ _ _ _ _ => hr9
  refine src_rng R.h S hr9 (by omega) fun I fp wr Sti h X => ?_
  refine lcE_src X S (by decide) rfl rfl (by rw [sizeLine_eq]; omega) (fun i V ys => LLR V ys ((List.range i).map fun i => List.replicate (p ^ (sz - 1 - i)) (p : Int))) .nil ?turn5 ?done5
  case turn5 =>
    rintro i v C1 D5 V5 ys mC hb h tk hi ⟨ti, rfl⟩ hV5 hm5 S
    clear X
    have hpe : (p : Int) ^ ((sz : Int) - 1 - (i : Int)).toNat = ((p ^ (sz - 1 - i) : Nat) : Int) := by
      have : ((sz : Int) - 1 - (i : Int)).toNat = sz - 1 - i := by omega
      rw [this]; push_cast; rfl
    have hpb : p ^ (sz - 1 - i) ≤ 25 := Nat.le_trans (Nat.pow_le_pow_right (by omega) (by omega)) hN25
    have hw1 : 0 ≤ (sz : Int) - 1 - (i : Int) := by omega
    have hw2 : (sz : Int) - 1 - (i : Int) ≤ 1000000 := by omega
    have hw3 : ((p : Nat) : Int).natAbs < 2 ^ 64 := by omega
    walk_at "go"
    rename St _ _ _ _ _ _ _ _ => S
    obtain ⟨V6, S, hV6, hAr⟩ := S.freeze (pre := []) rfl
    rw [hpe, Int.toNat_natCast] at hAr
    refine Elt.go S.tail hV6 ?_
    rw [List.range_succ, List.map_append]
    exact (hm5.sub hV6).snoc (hAr.mono fun _ x => PL.li x (rep_ints _ _ _))
  rintro D5 V5 ys h tk hV5 hm5 S
  clear X
  have hpe : (p : Int) ^ ((sz : Int) - (low : Int)).toNat = ((p ^ (sz - low) : Nat) : Int) := by
    have : ((sz : Int) - (low : Int)).toNat = sz - low := by omega
    rw [this]; push_cast; rfl
  have hpb : p ^ (sz - low) ≤ 25 := Nat.le_trans (Nat.pow_le_pow_right (by omega) (by omega)) hN25
  have hyl5 : ys.length ≤ 4 := by
    have h1 := hm5.length
    rw [List.length_map, List.length_range] at h1
    omega
  have hw1 : 0 ≤ (sz : Int) - (low : Int) := by omega
  have hw2 : (sz : Int) - (low : Int) ≤ 1000000 := by omega
  have hw3 : ((p : Nat) : Int).natAbs < 2 ^ 64 := by omega
  walk_at "go"
  rename St _ _ _ _ _ _ _ _ => S
  obtain ⟨V7, S, hV7, hdue⟩ := S.freeze (pre := []) rfl
  have S1 := S.tail
  obtain ⟨V8, S, hV8, hrl⟩ := S1.freeze (pre := []) rfl
  have S1 := S.tail.tail
  clear S
  have S := S1
  clear S1
  rw [hpe, Int.toNat_natCast] at hrl
  have hLL := (hm5.sub (hV7.trans hV8)).snoc (hrl.mono fun _ x => PL.li x (rep_ints (p ^ (sz - low)) 1 _))
  have hV := hV4.trans (hV5.trans (hV7.trans hV8))
  have hlz9 : ∀ q ∈ plainF nx (List.range (p ^ sz)), q.2.length ≤ 100 := fun q hq => by
    have := plainF_small nx (List.range (p ^ sz)) (p ^ sz) q (by rw [List.take_of_length_le (by simp)]; exact hq)
    rw [List.length_range] at this
    omega
  refine use (struck_c (nm := nmP p sz) (cs := List.range (p ^ sz)) (tb := plainF nx (List.range (p ^ sz))) (share := share) (total := dueL p sz low) C (hb0.trans S.keepO) (R.deeper.less (by omega)) PP8 (S.getV (hwin.sub hV)) hdt (S.getV (hAt.sub hV)) (hkt.mono (RT.sub (hV.trans S.keepV))) hsh0 (by omega) (by rw [List.length_range]; omega) hlz9 PP5) S ?_
  rintro v h' tk V9 hV9 S ⟨F3, hF3, da, vsa, rfl, hda, hla⟩
  walk_at "go"
  rename St _ _ _ _ _ _ _ _ => S
  refine ne_lists (nss := dueL p sz low) (S.getV (hda.sub hF3)) (S.getV ((hdue.mono fun _ x => x.pi).sub (hV8.trans hV9))) (hla.sub (hF3.trans S.keepV)) (hLL.sub (hV9.trans S.keepV)) (Nat.lt_of_le_of_lt (Nat.le_add_right _ 64) hu9) (by show (A.units + 3) + 1 + 64 < cLine; have := R.u; omega) ?_
  walk_at "go"
  rename St _ _ _ _ _ _ _ _ => S
  have hV := hV.trans hV9
  refine use (returns_c (nm := nmP p sz) (cs := List.range (p ^ sz)) (gs := (List.range (p ^ sz)).map fun c => (c, nx c)) (nx := nx) C (hb0.trans S.keepO) (R.deeper.less (by omega)) PP8 (S.getV (hwin.sub hV)) (S.getV (hgd.sub hV)) hm3 (fun c hc => getK_mapped nx hc) (fun c hc => List.mem_range.mpr (PP7 c (List.mem_range.mp hc))) (by rw [List.length_range]; omega)) S ?_
  rintro v h' tk V10 hV10 S ⟨F4, hF4, db, rfl, hdb⟩
  walk_at "go"
  rename St _ _ _ _ _ _ _ _ => S
  rename IsRange _ _ _ _ _ _ _ _ => hr9
  refine src_rngG (n := 8) R.h S hr9 (by decide +kernel) (by decide +kernel) fun I fp wr Sti h X => ?_
  refine lcE_src X S (by decide) rfl rfl (by rw [sizeLine_eq]; omega) (fun i V ys => IntsAre ys (((List.range 8).map fun k => ((retP nx (List.range (p ^ sz)) (k + 1) : Nat) : Int)).take i)) .nil ?turn6 ?done6
  case turn6 =>
    rintro i v C1 D6 V11 ys mC hb h tk hi ⟨ti, hv⟩ hV11 hm6 S
    clear X
    have hk1 : (1 : Int) + (i : Int) * 1 = ((i + 1 : Nat) : Int) := by omega
    rw [hk1] at hv
    clear hk1
    subst hv
    walk_at "go"
    rename St _ _ _ _ _ _ _ _ => S
    refine use (due_c (a := D) (taps := tsP p sz code) (more := more) (p := p) (k := i + 1) C (hb0.trans S.keepO) (R.deeper.less (by omega)) (S.getV (htaps.sub (hV.trans (hV10.trans hV11)))) (by omega) (by omega) (by omega) (by omega) (by rw [htl]; omega) (PP4 i hi)) S ?_
    rintro v h' tk V12 hV12 S ⟨F5, hF5, t5, rfl⟩
    walk_at "go"
    rename St _ _ _ _ _ _ _ _ => S
    refine Elt.go S hV12 ?_
    have hg : ((List.range 8).map fun k => ((retP nx (List.range (p ^ sz)) (k + 1) : Nat) : Int))[i]? = some ((retP nx (List.range (p ^ sz)) (i + 1) : Nat) : Int) := by rw [List.getElem?_map, List.getElem?_range hi]; rfl
    rw [List.take_add_one, hg]
    exact IntsAre.snoc hm6 _ _
  rintro D6 V11 ys h tk hV11 hm6 S
  clear X
  rw [List.take_of_length_le (by simp)] at hm6
  walk_at "go"
  rename St _ _ _ _ _ _ _ _ => S
  refine eq_ints99 (S.getV (hdb.sub (hF4.trans hV11))) ((S.getM (.head _)).mono fun _ x => PL.li x hm6) hu9 ?_
  walk_at "go"
end
theorem law_does : LawDoes := fun w mean mg mb s l ns C hl hn => law_c C (Sub.refl _) ⟨rfl, by decide, by decide⟩ hl hn fun p sz h code more hm => plain_law h code more hm
end Mine
theorem PySem.Challenge.cw_xo0013_01_holds : PySem.Challenge.rw_xo0013_01.Holds :=
  Mine.law_end Mine.law_does
