import PyProof.Rows.All
import Wide.All
import OpenK.AllK
import Wide.FinOn
import PySem.Challenge.RW_rs0096_01
set_option Elab.async false
set_option maxRecDepth 100000
set_option linter.all false
namespace Mine
open PySem PySem.Spec PySem.Calls PyProof.Rows PySem.W

def byRfl : Lean.Syntax := .node .none `Lean.Parser.Tactic.tacticSeq #[.node .none `Lean.Parser.Tactic.tacticSeq1Indented #[.node .none `null #[.node .none `Lean.Parser.Tactic.tacticRfl #[.atom .none "rfl"]]]]

noncomputable abbrev thePr : Program := PySem.Challenge.pw_rs0096_01
noncomputable def topSt (i : Nat) : Stmt := thePr.main.body.getD i (.Pass ⟨0, 0, 0, 0⟩)
noncomputable def dBody : Stmt → List Stmt | .FunctionDef _ _ b .. => b | _ => []
noncomputable def dArgs : Stmt → Arguments | .FunctionDef _ a .. => a | _ => ⟨[], [], none, [], [], none, []⟩
noncomputable def dScope : Stmt → Scope | .FunctionDef _ _ _ _ _ _ sc .. => sc | _ => ⟨.module, [], false, false, []⟩

/-! ## heaps that grow -/
/- a table of a code object (it may grow) -/
noncomputable def itName (n : String) : Bool := ["list_iterator", "tuple_iterator", "range_iterator", "str_ascii_iterator", "str_iterator", "enumerate"].contains n
noncomputable def tabby (o : Obj) : Bool := match o.data with | .fields _ => (match o.cls with | .none => true | .type n => itName n | _ => false) | _ => false
noncomputable def Kp (h h' : Heap) : Prop := ∀ b o, h.get? b = some o → tabby o = false → h'.get? b = some o
theorem Kp.trans {a b c : Heap} (x : Kp a b) (y : Kp b c) : Kp a c := fun p o e hc => y p o (x p o e hc) hc
theorem Kp.of_keep {h h' : Heap} (k : ∀ b o, h.get? b = some o → h'.get? b = some o) : Kp h h' := fun b o e _ => k b o e
theorem tabby_dict {o : Obj} {es ep} (h : o.data = .dict es ep) : tabby o = false := by simp [tabby, h]
theorem tabby_cell {o : Obj} {v} (h : o.data = .cell v) : tabby o = false := by simp [tabby, h]
theorem tabby_seq {o : Obj} {v n} (h : o.data = .seq v n) : tabby o = false := by simp [tabby, h]
theorem tabby_func {o : Obj} {f} (h : o.data = .func f) : tabby o = false := by simp [tabby, h]
theorem tabby_cls {o : Obj} {n} (h : o.cls = .type n) (hn : itName n = false := by decide) : tabby o = false := by unfold tabby; split <;> simp [h, hn]
theorem tabby_it {o : Obj} {n vs} (h : o.cls = .type n) (hd : o.data = .fields vs) (hn : itName n = true := by decide) : tabby o = true := by simp [tabby, h, hd, hn]
theorem ns_kp {h h' : Heap} {a : Addr} {m : Str → Option Value} (k : Kp h h') (n : h.Ns a m) : h'.Ns a m := by
  obtain ⟨o, es, ep, ho, hd, r⟩ := n
  exact ⟨o, es, ep, k _ _ ho (tabby_dict hd), hd, r⟩
theorem cell_kp {h h' : Heap} {a : Addr} {v} (k : Kp h h') (n : h.IsCell a v) : h'.IsCell a v := by
  obtain ⟨o, ho, hd⟩ := n
  exact ⟨o, k _ _ ho (tabby_cell hd), hd⟩
theorem kp_of {s s' : Shared} (k : Keeps s s') : Kp s.heap s'.heap := by obtain ⟨h', tk, rfl, kk⟩ := k; exact .of_keep kk
theorem keeps_toks (s : Shared) (tk : Nat) : Keeps s { s with toks := tk } := ⟨s.heap, tk, rfl, fun _ _ e => e⟩
theorem keeps_refl (s : Shared) : Keeps s s := ⟨s.heap, s.toks, rfl, fun _ _ e => e⟩
theorem keeps_trans {a b c : Shared} (x : Keeps a b) (y : Keeps b c) : Keeps a c := by
  obtain ⟨h1, t1, rfl, k1⟩ := x
  obtain ⟨h2, t2, rfl, k2⟩ := y
  exact ⟨h2, t2, rfl, fun b o e => k2 b o (k1 b o e)⟩
theorem keeps_get {s s' : Shared} (k : Keeps s s') {b : Addr} {o : Obj} (e : s.heap.get? b = some o) : s'.heap.get? b = some o := by obtain ⟨h', tk, rfl, kk⟩ := k; exact kk b o e
theorem none_of_keeps {s s' : Shared} (k : Keeps s s') {a : Addr} (h : s'.heap.get? a = none) : s.heap.get? a = none := by
  cases e : s.heap.get? a with
  | none => rfl
  | some o => rw [keeps_get k e] at h; cases h
theorem keeps_push (s : Shared) (o : Obj) : Keeps s { s with heap := s.heap.push o } := ⟨_, s.toks, rfl, fun _ _ e => Heap.get?_push_of_some _ e⟩
theorem fresh_size (h : Heap) : h.get? h.objs.size = none := by
  cases e : h.get? h.objs.size with
  | none => rfl
  | some o => exact absurd (Heap.lt_size e) (Nat.lt_irrefl _)
theorem fresh_ge {h : Heap} {a : Addr} (ha : h.objs.size ≤ a) : h.get? a = none := by
  cases e : h.get? a with
  | none => rfl
  | some o => exact absurd (Heap.lt_size e) (Nat.not_lt.mpr ha)


/-! ## data in a heap: as Reads, but every list and tuple is a plain object -/
noncomputable abbrev listO (vs : Array Value) (n : Nat) : Obj := { cls := .type "list", data := .seq vs n }
noncomputable abbrev tupO (vs : Array Value) (n : Nat) : Obj := { cls := .type "tuple", data := .seq vs n }
mutual
inductive Rds (h : Heap) : Value → PyData → List Addr → Prop
  | none : Rds h .none .none []
  | bool (b) : Rds h (.bool b) (.bool b) []
  | int (i t) : Rds h (.int i t) (.int i) []
  | str (x t) : Rds h (.str x t) (.str x) []
  | list {a vs n xs as} : h.get? a = some (listO vs n) → RdsAll h vs.toList xs as → Rds h (.ref a) (.list xs) (a :: as)
  | tuple {a vs n xs as} : h.get? a = some (tupO vs n) → RdsAll h vs.toList xs as → Rds h (.ref a) (.tuple xs) as
inductive RdsAll (h : Heap) : List Value → List PyData → List Addr → Prop
  | nil : RdsAll h [] [] []
  | cons {v vs d ds as bs} : Rds h v d as → RdsAll h vs ds bs → RdsAll h (v :: vs) (d :: ds) (as ++ bs)
end
theorem Rds.reads {h : Heap} {v : Value} {d : PyData} {as : List Addr} (r : Rds h v d as) : Reads h v d as :=
  @Rds.rec h (fun v d as _ => Reads h v d as) (fun vs ds as _ => ReadsAll h vs ds as) .none (fun b => .bool b) (fun i t => .int i t) (fun x t => .str x t)
    (fun ho _ q => .list ho rfl rfl q) (fun ho _ q => .tuple ho rfl rfl q) .nil (fun _ _ q q' => .cons q q') v d as r
theorem RdsAll.reads {h : Heap} {vs : List Value} {ds : List PyData} {as : List Addr} (r : RdsAll h vs ds as) : ReadsAll h vs ds as :=
  @RdsAll.rec h (fun v d as _ => Reads h v d as) (fun vs ds as _ => ReadsAll h vs ds as) .none (fun b => .bool b) (fun i t => .int i t) (fun x t => .str x t)
    (fun ho _ q => .list ho rfl rfl q) (fun ho _ q => .tuple ho rfl rfl q) .nil (fun _ _ q q' => .cons q q') vs ds as r
section
variable {h h' : Heap} {S : Addr → Prop} (kl : ∀ a vs n, S a → h.get? a = some (listO vs n) → h'.get? a = some (listO vs n)) (kt : ∀ a vs n, h.get? a = some (tupO vs n) → h'.get? a = some (tupO vs n))
include kl kt
theorem rds_mv {v : Value} {d : PyData} {as : List Addr} (r : Rds h v d as) : (∀ a ∈ as, S a) → Rds h' v d as :=
  @Rds.rec h (fun v d as _ => (∀ a ∈ as, S a) → Rds h' v d as) (fun vs ds as _ => (∀ a ∈ as, S a) → RdsAll h' vs ds as) (fun _ => .none) (fun b _ => .bool b) (fun i t _ => .int i t) (fun x t _ => .str x t)
    (fun ho _ q hs => .list (kl _ _ _ (hs _ (.head _)) ho) (q fun b hb => hs b (.tail _ hb))) (fun ho _ q hs => .tuple (kt _ _ _ ho) (q hs)) (fun _ => .nil)
    (fun _ _ q q' hs => .cons (q fun b hb => hs b (List.mem_append_left _ hb)) (q' fun b hb => hs b (List.mem_append_right _ hb))) v d as r
theorem rdsAll_mv {vs : List Value} {ds : List PyData} {as : List Addr} (r : RdsAll h vs ds as) : (∀ a ∈ as, S a) → RdsAll h' vs ds as :=
  @RdsAll.rec h (fun v d as _ => (∀ a ∈ as, S a) → Rds h' v d as) (fun vs ds as _ => (∀ a ∈ as, S a) → RdsAll h' vs ds as) (fun _ => .none) (fun b _ => .bool b) (fun i t _ => .int i t) (fun x t _ => .str x t)
    (fun ho _ q hs => .list (kl _ _ _ (hs _ (.head _)) ho) (q fun b hb => hs b (.tail _ hb))) (fun ho _ q hs => .tuple (kt _ _ _ ho) (q hs)) (fun _ => .nil)
    (fun _ _ q q' hs => .cons (q fun b hb => hs b (List.mem_append_left _ hb)) (q' fun b hb => hs b (List.mem_append_right _ hb))) vs ds as r
end
theorem rds_kp {h h' : Heap} (k : Kp h h') {v : Value} {d : PyData} {as : List Addr} (r : Rds h v d as) : Rds h' v d as :=
  rds_mv (S := fun _ => True) (fun a vs n _ e => k a _ e rfl) (fun a vs n e => k a _ e rfl) r fun _ _ => trivial
theorem rdsAll_kp {h h' : Heap} (k : Kp h h') {vs : List Value} {ds : List PyData} {as : List Addr} (r : RdsAll h vs ds as) : RdsAll h' vs ds as :=
  rdsAll_mv (S := fun _ => True) (fun a vs n _ e => k a _ e rfl) (fun a vs n e => k a _ e rfl) r fun _ _ => trivial

mutual
/- no list or dict inside -/
noncomputable def flat : PyData → Bool
  | .none | .bool _ | .int _ | .str _ => true
  | .tuple xs => flatAll xs
  | .list _ | .dict _ => false
noncomputable def flatAll : List PyData → Bool
  | [] => true
  | d :: ds => flat d && flatAll ds
end
theorem rds_flat {h : Heap} {v : Value} {d : PyData} {as : List Addr} (r : Rds h v d as) : flat d = true → as = [] :=
  @Rds.rec h (fun v d as _ => flat d = true → as = []) (fun vs ds as _ => flatAll ds = true → as = []) (fun _ => rfl) (fun _ _ => rfl) (fun _ _ _ => rfl) (fun _ _ _ => rfl)
    (fun _ _ _ f => nomatch f) (fun _ _ q f => q f) (fun _ => rfl) (fun _ _ q q' f => by rw [flatAll, Bool.and_eq_true] at f; rw [q f.1, q' f.2]; rfl) v d as r
theorem rdsAll_flat {h : Heap} {vs : List Value} {ds : List PyData} {as : List Addr} (r : RdsAll h vs ds as) : flatAll ds = true → as = [] :=
  @RdsAll.rec h (fun v d as _ => flat d = true → as = []) (fun vs ds as _ => flatAll ds = true → as = []) (fun _ => rfl) (fun _ _ => rfl) (fun _ _ _ => rfl) (fun _ _ _ => rfl)
    (fun _ _ _ f => nomatch f) (fun _ _ q f => q f) (fun _ => rfl) (fun _ _ q q' f => by rw [flatAll, Bool.and_eq_true] at f; rw [q f.1, q' f.2]; rfl) vs ds as r
theorem flatAll_iff : ∀ {ds : List PyData}, flatAll ds = true ↔ ∀ d ∈ ds, flat d = true
  | [] => by simp [flatAll]
  | d :: ds => by simp [flatAll, flatAll_iff (ds := ds)]

theorem ff {P : Prop} (h : false = true) : P := nomatch h
theorem RdsAll.ind {h : Heap} {C : List Value → List PyData → List Addr → Prop} (n : C [] [] []) (c : ∀ v vs d ds as bs, Rds h v d as → RdsAll h vs ds bs → C vs ds bs → C (v :: vs) (d :: ds) (as ++ bs))
    {vs : List Value} {ds : List PyData} {as : List Addr} (r : RdsAll h vs ds as) : C vs ds as :=
  @RdsAll.rec h (fun _ _ _ _ => True) (fun vs ds as _ => C vs ds as) trivial (fun _ => trivial) (fun _ _ => trivial) (fun _ _ => trivial) (fun _ _ _ => trivial) (fun _ _ _ => trivial) n (fun r r' _ q => c _ _ _ _ _ _ r r' q) vs ds as r
noncomputable def Inv (h : Heap) (v : Value) (as : List Addr) : PyData → Prop
  | .int i => ∃ t, .int i t = v
  | .str x => ∃ t, .str x t = v
  | .bool b => .bool b = v
  | .none => .none = v
  | .list xs => ∃ a it n bs, .ref a = v ∧ as = a :: bs ∧ h.get? a = some (listO it n) ∧ RdsAll h it.toList xs bs
  | .tuple xs => ∃ a it n, .ref a = v ∧ h.get? a = some (tupO it n) ∧ RdsAll h it.toList xs as
  | _ => True
noncomputable def InvAll (h : Heap) (vs : List Value) (as : List Addr) : List PyData → Prop
  | [] => [] = vs
  | d :: ds => ∃ x r bs cs, x :: r = vs ∧ as = bs ++ cs ∧ Rds h x d bs ∧ RdsAll h r ds cs
section
variable {h : Heap} {v : Value} {vs : List Value} {as : List Addr}
theorem Rds.inv {d : PyData} (r : Rds h v d as) : Inv h v as d :=
  @Rds.rec h (fun v d as _ => Inv h v as d) (fun _ _ _ _ => True) rfl (fun _ => rfl) (fun _ t => ⟨t, rfl⟩) (fun _ t => ⟨t, rfl⟩) (fun ho r _ => ⟨_, _, _, _, rfl, rfl, ho, r⟩) (fun ho r _ => ⟨_, _, _, rfl, ho, r⟩) trivial (fun _ _ _ _ => trivial) v d as r
theorem RdsAll.inv {ds : List PyData} (r : RdsAll h vs ds as) : InvAll h vs as ds :=
  @RdsAll.rec h (fun _ _ _ _ => True) (fun vs ds as _ => InvAll h vs as ds) trivial (fun _ => trivial) (fun _ _ => trivial) (fun _ _ => trivial) (fun _ _ _ => trivial) (fun _ _ _ => trivial) rfl (fun r r' _ _ => ⟨_, _, _, _, rfl, rfl, r, r'⟩) vs ds as r
@[elab_as_elim] theorem rdsI {i : Int} {C : Value → Prop} (r : Rds h v (.int i) as) (k : ∀ t, C (.int i t)) : C v := r.inv.elim fun t e => e ▸ k t
@[elab_as_elim] theorem rdsS {x : Str} {C : Value → Prop} (r : Rds h v (.str x) as) (k : ∀ t, C (.str x t)) : C v := r.inv.elim fun t e => e ▸ k t
@[elab_as_elim] theorem rdsB {b : Bool} {C : Value → Prop} (r : Rds h v (.bool b) as) (k : C (.bool b)) : C v := (show .bool b = v from r.inv) ▸ k
@[elab_as_elim] theorem rdsN {C : Value → Prop} (r : Rds h v .none as) (k : C .none) : C v := (show .none = v from r.inv) ▸ k
@[elab_as_elim] theorem rdsL {xs : List PyData} {C : Value → Prop} (r : Rds h v (.list xs) as) (k : ∀ a it n bs, as = a :: bs → h.get? a = some (listO it n) → RdsAll h it.toList xs bs → C (.ref a)) : C v := r.inv.elim fun a ⟨it, n, bs, e, x⟩ => e ▸ k a it n bs x.1 x.2.1 x.2.2
@[elab_as_elim] theorem rdsT {xs : List PyData} {C : Value → Prop} (r : Rds h v (.tuple xs) as) (k : ∀ a it n, h.get? a = some (tupO it n) → RdsAll h it.toList xs as → C (.ref a)) : C v := r.inv.elim fun a ⟨it, n, e, x⟩ => e ▸ k a it n x.1 x.2
@[elab_as_elim] theorem rdsC {d : PyData} {ds : List PyData} {C : List Value → Prop} (r : RdsAll h vs (d :: ds) as) (k : ∀ x l bs cs, as = bs ++ cs → Rds h x d bs → RdsAll h l ds cs → C (x :: l)) : C vs := r.inv.elim fun x ⟨l, bs, cs, e, q⟩ => e ▸ k x l bs cs q.1 q.2.1 q.2.2
@[elab_as_elim] theorem rds0 {C : List Value → Prop} (r : RdsAll h vs [] as) (k : C []) : C vs := (show [] = vs from r.inv) ▸ k
@[elab_as_elim] theorem rds1 {a : PyData} {C : List Value → Prop} (r : RdsAll h vs [a] as) (k : ∀ x bs, Rds h x a bs → C [x]) : C vs := rdsC r fun x _ bs _ _ rx r => rds0 (C := fun l => C (x :: l)) r (k x bs rx)
@[elab_as_elim] theorem rds2 {a b : PyData} {C : List Value → Prop} (r : RdsAll h vs [a, b] as) (k : ∀ x y bs cs, Rds h x a bs → Rds h y b cs → C [x, y]) : C vs := rdsC r fun x _ bs _ _ rx r => rds1 (C := fun l => C (x :: l)) r fun y cs ry => k x y bs cs rx ry
@[elab_as_elim] theorem rds3 {a b c : PyData} {C : List Value → Prop} (r : RdsAll h vs [a, b, c] as) (k : ∀ x y z bs cs ds, Rds h x a bs → Rds h y b cs → Rds h z c ds → C [x, y, z]) : C vs := rdsC r fun x _ bs _ _ rx r => rds2 (C := fun l => C (x :: l)) r fun y z cs ds ry rz => k x y z bs cs ds rx ry rz
@[elab_as_elim] theorem rds4 {a b c d : PyData} {C : List Value → Prop} (r : RdsAll h vs [a, b, c, d] as) (k : ∀ x y z u bs cs ds es, Rds h x a bs → Rds h y b cs → Rds h z c ds → Rds h u d es → C [x, y, z, u]) : C vs := rdsC r fun x _ bs _ _ rx r => rds3 (C := fun l => C (x :: l)) r fun y z u cs ds es ry rz ru => k x y z u bs cs ds es rx ry rz ru
@[elab_as_elim] theorem rdsT2 {a b : PyData} {C : Value → Prop} (r : Rds h v (.tuple [a, b]) as) (k : ∀ t n x y bs cs, h.get? t = some (tupO #[x, y] n) → Rds h x a bs → Rds h y b cs → C (.ref t)) : C v :=
  rdsT r fun t it n ho r => rds2 (C := fun l => it.toList = l → C (.ref t)) r (fun x y bs cs rx ry e => k t n x y bs cs (by rw [ho, ← e]) rx ry) rfl
@[elab_as_elim] theorem rdsT3 {a b c : PyData} {C : Value → Prop} (r : Rds h v (.tuple [a, b, c]) as) (k : ∀ t n x y z bs cs ds, h.get? t = some (tupO #[x, y, z] n) → Rds h x a bs → Rds h y b cs → Rds h z c ds → C (.ref t)) : C v :=
  rdsT r fun t it n ho r => rds3 (C := fun l => it.toList = l → C (.ref t)) r (fun x y z bs cs ds rx ry rz e => k t n x y z bs cs ds (by rw [ho, ← e]) rx ry rz) rfl
end

noncomputable def Kf (h h' : Heap) : Prop := ∀ b o, h.get? b = some o → h'.get? b = some o
theorem kf_of {s s' : Shared} (k : Keeps s s') : Kf s.heap s'.heap := by obtain ⟨h', tk, rfl, kk⟩ := k; exact kk
theorem Kf.trans {a b c : Heap} (x : Kf a b) (y : Kf b c) : Kf a c := fun p o e => y p o (x p o e)
noncomputable def Mono (G : Heap → Prop) : Prop := ∀ h h', Kf h h' → G h → G h'

/- an expression that gives d, keeping all that stood; f: what is mutable in it is new -/
noncomputable def EV (w : World) (A : Around) (env : Env) (G : Heap → Prop) (f : Bool) (e : Expr) (d : PyData) : Prop :=
  ∀ (s : Shared) (E : Value → Shared → Prop), G s.heap → wpAny (model thePr w) A (eval e env) (fun v s' => (∃ as, Rds s'.heap v d as ∧ (f = true → ∀ a ∈ as, s.heap.get? a = none)) ∧ Keeps s s') E s

section
variable {w : World} {A : Around} {E : Value → Shared → Prop} {s : Shared} {c : Sem Value} {cs : Sem (List Value)} {f : Bool} {d : PyData} {ds : List PyData} {Q : Value → Shared → Prop} {Qs : List Value → Shared → Prop}
theorem tv_go {cb : Sem Bool} {b : Bool} {Qb : Bool → Shared → Prop} (h : wpAny (model thePr w) A cb (fun b' s' => b' = b ∧ Keeps s s') E s) (k : ∀ s', Keeps s s' → Qb b s') : wpAny (model thePr w) A cb Qb E s :=
  wpAny_mono h (fun _ s' x => x.1 ▸ k s' x.2) fun _ _ x => x
theorem tv_goK {cb : Sem Bool} {b : Bool} {Qb : Bool → Shared → Prop} (h : wpAny (model thePr w) A cb (fun b' s' => b' = b ∧ Keeps s s') E s) (k : ∀ h' tk, (∀ b o, s.heap.get? b = some o → h'.get? b = some o) → Qb b { s with heap := h', toks := tk }) : wpAny (model thePr w) A cb Qb E s :=
  tv_go h fun s' ⟨h', tk, e, kk⟩ => e ▸ k h' tk kk
theorem ev_go (h : wpAny (model thePr w) A c (fun v s' => (∃ as, Rds s'.heap v d as ∧ (f = true → ∀ a ∈ as, s.heap.get? a = none)) ∧ Keeps s s') E s)
    (k : ∀ v s' as, Rds s'.heap v d as → Keeps s s' → Q v s') : wpAny (model thePr w) A c Q E s :=
  wpAny_mono h (fun v s' x => k v s' x.1.choose x.1.choose_spec.1 x.2) fun _ _ x => x
theorem ev_goN (h : wpAny (model thePr w) A c (fun v s' => (∃ as, Rds s'.heap v d as ∧ (f = true → ∀ a ∈ as, s.heap.get? a = none)) ∧ Keeps s s') E s)
    (k : ∀ v s' as, Rds s'.heap v d as → (f = true → ∀ a ∈ as, s.heap.get? a = none) → Keeps s s' → Q v s') : wpAny (model thePr w) A c Q E s :=
  wpAny_mono h (fun v s' x => k v s' x.1.choose x.1.choose_spec.1 x.1.choose_spec.2 x.2) fun _ _ x => x
theorem ev_goK (h : wpAny (model thePr w) A c (fun v s' => (∃ as, Rds s'.heap v d as ∧ (f = true → ∀ a ∈ as, s.heap.get? a = none)) ∧ Keeps s s') E s)
    (k : ∀ v as h' tk, Rds h' v d as → (∀ b o, s.heap.get? b = some o → h'.get? b = some o) → Q v { s with heap := h', toks := tk }) : wpAny (model thePr w) A c Q E s :=
  ev_go h fun v s' as r ⟨h', tk, e, kk⟩ => by subst e; exact k v as h' tk r kk
theorem ev_goNK (h : wpAny (model thePr w) A c (fun v s' => (∃ as, Rds s'.heap v d as ∧ (f = true → ∀ a ∈ as, s.heap.get? a = none)) ∧ Keeps s s') E s)
    (k : ∀ v as h' tk, Rds h' v d as → (f = true → ∀ a ∈ as, s.heap.get? a = none) → (∀ b o, s.heap.get? b = some o → h'.get? b = some o) → Q v { s with heap := h', toks := tk }) : wpAny (model thePr w) A c Q E s :=
  ev_goN h fun v s' as r n ⟨h', tk, e, kk⟩ => by subst e; exact k v as h' tk r n kk
theorem evs_go (h : wpAny (model thePr w) A cs (fun v s' => (∃ as, RdsAll s'.heap v ds as ∧ (f = true → ∀ a ∈ as, s.heap.get? a = none)) ∧ Keeps s s') E s)
    (k : ∀ v s' as, RdsAll s'.heap v ds as → Keeps s s' → Qs v s') : wpAny (model thePr w) A cs Qs E s :=
  wpAny_mono h (fun v s' x => k v s' x.1.choose x.1.choose_spec.1 x.2) fun _ _ x => x
theorem evs_goN (h : wpAny (model thePr w) A cs (fun v s' => (∃ as, RdsAll s'.heap v ds as ∧ (f = true → ∀ a ∈ as, s.heap.get? a = none)) ∧ Keeps s s') E s)
    (k : ∀ v s' as, RdsAll s'.heap v ds as → (f = true → ∀ a ∈ as, s.heap.get? a = none) → Keeps s s' → Qs v s') : wpAny (model thePr w) A cs Qs E s :=
  wpAny_mono h (fun v s' x => k v s' x.1.choose x.1.choose_spec.1 x.1.choose_spec.2 x.2) fun _ _ x => x
theorem evs_goK (h : wpAny (model thePr w) A cs (fun v s' => (∃ as, RdsAll s'.heap v ds as ∧ (f = true → ∀ a ∈ as, s.heap.get? a = none)) ∧ Keeps s s') E s)
    (k : ∀ v as h' tk, RdsAll h' v ds as → (∀ b o, s.heap.get? b = some o → h'.get? b = some o) → Qs v { s with heap := h', toks := tk }) : wpAny (model thePr w) A cs Qs E s :=
  evs_go h fun v s' as r ⟨h', tk, e, kk⟩ => by subst e; exact k v as h' tk r kk
theorem evs_goNK (h : wpAny (model thePr w) A cs (fun v s' => (∃ as, RdsAll s'.heap v ds as ∧ (f = true → ∀ a ∈ as, s.heap.get? a = none)) ∧ Keeps s s') E s)
    (k : ∀ v as h' tk, RdsAll h' v ds as → (f = true → ∀ a ∈ as, s.heap.get? a = none) → (∀ b o, s.heap.get? b = some o → h'.get? b = some o) → Qs v { s with heap := h', toks := tk }) : wpAny (model thePr w) A cs Qs E s :=
  evs_goN h fun v s' as r n ⟨h', tk, e, kk⟩ => by subst e; exact k v as h' tk r n kk
end

section
variable {w : World} {A : Around} {env : Env} {G : Heap → Prop}

theorem EV.weak {f : Bool} {e : Expr} {d : PyData} (h : EV w A env G f e d) : EV w A env G false e d := fun s E g =>
  wpAny_mono (h s E g) (fun _ _ x => by obtain ⟨⟨as, r, _⟩, k⟩ := x; exact ⟨⟨as, r, ff⟩, k⟩) fun _ _ x => x
theorem EV.new {e : Expr} {f : Bool} {d : PyData} (h : EV w A env G f e d) (hf : flat d = true) : EV w A env G true e d := fun s E g =>
  wpAny_mono (h s E g) (fun _ _ x => by
    obtain ⟨⟨as, r, _⟩, k⟩ := x
    have := rds_flat r hf
    subst this
    exact ⟨⟨[], r, fun _ a ha => nomatch ha⟩, k⟩) fun _ _ x => x

theorem EV.int {i : Int} {k : Nat} {pos : Pos} : EV w A env G true (.Constant (.int i) k pos) (.int i) := fun s E _ =>
  wpAny_Constant_int ⟨⟨[], .int _ _, fun _ _ h => nomatch h⟩, keeps_toks _ _⟩
theorem EV.str {x : Str} {k : Nat} {pos : Pos} : EV w A env G true (.Constant (.str x) k pos) (.str x) := fun s E _ =>
  Constant_str ⟨⟨[], .str _ _, fun _ _ h => nomatch h⟩, keeps_toks _ _⟩
theorem EV.bool {b : Bool} {k : Nat} {pos : Pos} : EV w A env G true (.Constant (.bool b) k pos) (.bool b) := fun s E _ =>
  wpAny_pure ⟨⟨[], .bool _, fun _ _ h => nomatch h⟩, keeps_refl _⟩

/- one binary step over ints -/
theorem EV.bin (hm : Mono G) {f g : Bool} {l r : Expr} {op : Operator} {pos : Pos} {a b c : PyData} (hl : EV w A env G f l a) (hr : EV w A env G g r b)
    (hop : ∀ (s : Shared) (E : Value → Shared → Prop) (x y : Value) (as bs : List Addr), G s.heap → Rds s.heap x a as → Rds s.heap y b bs →
      wpAny (model thePr w) A (binaryOp op x y) (fun v s' => (∃ cs, Rds s'.heap v c cs ∧ ∀ q ∈ cs, s.heap.get? q = none) ∧ Keeps s s') E s) : EV w A env G true (.BinOp l op r pos) c := by
  intro s E g
  refine wpAny_BinOp (ev_go (hl s E g) fun x s₁ as ra k₁ => ?_)
  refine ev_go (hr s₁ E (hm _ _ (kf_of k₁) g)) fun y s₂ bs rb k₂ => ?_
  refine wpAny_mono (hop s₂ E x y as bs (hm _ _ (kf_of (keeps_trans k₁ k₂)) g) (rds_kp (kp_of k₂) ra) rb) (fun v s₃ h₃ => ?_) fun _ _ x => x
  obtain ⟨⟨cs, rc, hc⟩, k₃⟩ := h₃
  exact ⟨⟨cs, rc, fun _ q hq => none_of_keeps (keeps_trans k₁ k₂) (hc q hq)⟩, keeps_trans (keeps_trans k₁ k₂) k₃⟩

theorem EV.binI (hm : Mono G) {f g : Bool} {l r : Expr} {op : Operator} {pos : Pos} {i j k : Int} (hl : EV w A env G f l (.int i)) (hr : EV w A env G g r (.int j))
    (hop : ∀ (s : Shared) (E : Value → Shared → Prop) (t u : Tok) (Q : Value → Shared → Prop), (∀ t', Q (.int k t') { s with toks := s.toks + 1 }) → wpAny (model thePr w) A (binaryOp op (.int i t) (.int j u)) Q E s) : EV w A env G true (.BinOp l op r pos) (.int k) :=
  .bin hm hl hr fun s E x y as bs _ rx ry => rdsI rx fun t => rdsI ry fun u => hop s E t u _ fun _ => ⟨⟨[], .int _ _, fun _ h => nomatch h⟩, keeps_toks _ _⟩
theorem EV.add (hm : Mono G) {f g : Bool} {l r : Expr} {pos : Pos} {i j : Int} (hl : EV w A env G f l (.int i)) (hr : EV w A env G g r (.int j)) : EV w A env G true (.BinOp l .Add r pos) (.int (i + j)) :=
  .binI hm hl hr fun _ _ _ _ _ q => PyProof.Rows.add_int (q _)
theorem EV.sub (hm : Mono G) {f g : Bool} {l r : Expr} {pos : Pos} {i j : Int} (hl : EV w A env G f l (.int i)) (hr : EV w A env G g r (.int j)) : EV w A env G true (.BinOp l .Sub r pos) (.int (i - j)) :=
  .binI hm hl hr fun _ _ _ _ _ q => PyProof.Rows.sub_int (q _)
theorem EV.mod (hm : Mono G) {f g : Bool} {l r : Expr} {pos : Pos} {i j : Int} (hj : j ≠ 0) (hl : EV w A env G f l (.int i)) (hr : EV w A env G g r (.int j)) : EV w A env G true (.BinOp l .Mod r pos) (.int (i.fmod j)) :=
  .binI hm hl hr fun _ _ _ _ _ q => PyProof.Rows.mod_int' hj (q _)
theorem EV.fdiv (hm : Mono G) {f g : Bool} {l r : Expr} {pos : Pos} {i j : Int} (hj : j ≠ 0) (hby : Builtin.divisionGoesByPylong i j = false) (hl : EV w A env G f l (.int i)) (hr : EV w A env G g r (.int j)) : EV w A env G true (.BinOp l .FloorDiv r pos) (.int (i.fdiv j)) :=
  .binI hm hl hr fun _ _ _ _ _ q => PyProof.Rows.floordiv_int hj (q _) (.inl hby)
theorem EV.pow (hm : Mono G) {f g : Bool} {l r : Expr} {pos : Pos} {i j : Int} (hj : 0 ≤ j) (hby : (Builtin.Int.intBits i : Int) * j ≤ 2 ^ 27) (hl : EV w A env G f l (.int i)) (hr : EV w A env G g r (.int j)) : EV w A env G true (.BinOp l .Pow r pos) (.int (i ^ j.toNat)) :=
  .binI hm hl hr fun _ _ _ _ _ q => PyProof.Rows.pow_int hj hby (q _)
theorem EV.adds (hm : Mono G) {f g : Bool} {l r : Expr} {pos : Pos} {i j : Str} (hz : i.length + j.length ≤ sizeLine) (hl : EV w A env G f l (.str i)) (hr : EV w A env G g r (.str j)) : EV w A env G true (.BinOp l .Add r pos) (.str (i ++ j)) :=
  .bin hm hl hr fun s E x y as bs _ rx ry => rdsS rx fun _ => rdsS ry fun _ => PyProof.Rows.add_str (fun _ _ => ⟨⟨[], .str _ _, fun _ h => nomatch h⟩, keeps_toks _ _⟩) hz

/- one comparison -/
theorem EV.cmp (hm : Mono G) {f g : Bool} {l r : Expr} {op : CmpOp} {pos : Pos} {a b c : PyData} (hb : behindInMarks op r = false) (hf : flat c = true) (hl : EV w A env G f l a) (hr : EV w A env G g r b)
    (hop : ∀ (s : Shared) (E : Value → Shared → Prop) (x y : Value) (as bs : List Addr), G s.heap → Rds s.heap x a as → Rds s.heap y b bs →
      wpAny (model thePr w) A (compareOp op x y) (fun v s' => (∃ cs, Rds s'.heap v c cs) ∧ Keeps s s') E s) : EV w A env G true (.Compare l [op] [r] pos) c := by
  refine EV.new (f := false) ?_ hf
  intro s E g
  refine wpAny_Compare1 (ev_go (hl s E g) fun x s₁ as ra k₁ => ?_) hb
  refine ev_go (hr s₁ E (hm _ _ (kf_of k₁) g)) fun y s₂ bs rb k₂ => ?_
  refine wpAny_mono (hop s₂ E x y as bs (hm _ _ (kf_of (keeps_trans k₁ k₂)) g) (rds_kp (kp_of k₂) ra) rb) (fun v s₃ h₃ => ?_) fun _ _ x => x
  obtain ⟨⟨cs, rc⟩, k₃⟩ := h₃
  exact ⟨⟨cs, rc, ff⟩, keeps_trans (keeps_trans k₁ k₂) k₃⟩

theorem EV.eqd (hm : Mono G) (hu : A.units + 64 < cLine) {f g : Bool} {l r : Expr} {pos : Pos} {a b : PyData} (ha : SeqAt.shaped a = true) (hb' : SeqAt.shaped b = true) (hl : EV w A env G f l a) (hr : EV w A env G g r b) (hb : autoParam (behindInMarks .Eq r = false) byRfl) :
    EV w A env G true (.Compare l [.Eq] [r] pos) (.bool (PyData.eqv a b)) :=
  .cmp hm hb rfl hl hr fun s E x y as bs _ rx ry => SeqAt.compareEq_shaped rx.reads ry.reads ha hb' hu ⟨⟨[], .bool _⟩, keeps_refl _⟩
theorem EV.ned (hm : Mono G) (hu : A.units + 64 < cLine) {f g : Bool} {l r : Expr} {pos : Pos} {a b : PyData} (ha : SeqAt.shaped a = true) (hb' : SeqAt.shaped b = true) (hl : EV w A env G f l a) (hr : EV w A env G g r b) (hb : autoParam (behindInMarks .NotEq r = false) byRfl) :
    EV w A env G true (.Compare l [.NotEq] [r] pos) (.bool (!PyData.eqv a b)) :=
  .cmp hm hb rfl hl hr fun s E x y as bs _ rx ry => SeqAt.compareNe_shaped rx.reads ry.reads ha hb' hu ⟨⟨[], .bool _⟩, keeps_refl _⟩
theorem EV.eqi (hm : Mono G) {f g : Bool} {l r : Expr} {pos : Pos} {i j : Int} (hl : EV w A env G f l (.int i)) (hr : EV w A env G g r (.int j)) (hb : autoParam (behindInMarks .Eq r = false) byRfl) : EV w A env G true (.Compare l [.Eq] [r] pos) (.bool (i == j)) :=
  .cmp hm hb rfl hl hr fun s E x y as bs _ rx ry => rdsI rx fun _ => rdsI ry fun _ => PyProof.Rows.eq_int ⟨⟨[], .bool _⟩, keeps_refl _⟩
theorem EV.neg {f : Bool} {x : Expr} {pos : Pos} {i : Int} (hx : EV w A env G f x (.int i)) : EV w A env G true (.UnaryOp .USub x pos) (.int (-i)) := by
  refine EV.new (f := false) ?_ rfl
  intro s E g
  refine wpAny_UnaryOp (ev_go (hx s E g) fun v s₁ as ra k₁ => ?_)
  exact rdsI ra fun _ => PyProof.Rows.neg_int ⟨⟨[], .int _ _, fun _ _ h => nomatch h⟩, keeps_trans k₁ (keeps_toks _ _)⟩

/- the value of a test -/
noncomputable def TV (w : World) (A : Around) (env : Env) (G : Heap → Prop) (c : Expr) (b : Bool) : Prop :=
  ∀ (s : Shared) (E : Value → Shared → Prop), G s.heap → wpAny (model thePr w) A (isTrue c env (eval c env)) (fun b' s' => b' = b ∧ Keeps s s') E s

theorem TV.cmp (hm : Mono G) {f g : Bool} {l r : Expr} {op : CmpOp} {pos : Pos} {a b : PyData} {c : Bool} (hb : behindInMarks op r = false) (hl : EV w A env G f l a) (hr : EV w A env G g r b)
    (hop : ∀ (s : Shared) (E : Value → Shared → Prop) (x y : Value) (as bs : List Addr), G s.heap → Rds s.heap x a as → Rds s.heap y b bs →
      wpAny (model thePr w) A (compareOp op x y) (fun v s' => v = .bool c ∧ Keeps s s') E s) : TV w A env G (.Compare l [op] [r] pos) c := by
  intro s E g
  refine wpAny_isTrue_Compare1 (ev_go (hl s E g) fun x s₁ as ra k₁ => ?_) hb
  refine ev_go (hr s₁ E (hm _ _ (kf_of k₁) g)) fun y s₂ bs rb k₂ => ?_
  refine wpAny_mono (hop s₂ E x y as bs (hm _ _ (kf_of (keeps_trans k₁ k₂)) g) (rds_kp (kp_of k₂) ra) rb) (fun v s₃ h₃ => ?_) fun _ _ x => x
  exact h₃.1 ▸ wpAny_truthy_bool ⟨rfl, keeps_trans (keeps_trans k₁ k₂) h₃.2⟩
theorem TV.lt (hm : Mono G) {f g : Bool} {l r : Expr} {pos : Pos} {i j : Int} (hl : EV w A env G f l (.int i)) (hr : EV w A env G g r (.int j)) (hb : autoParam (behindInMarks .Lt r = false) byRfl) : TV w A env G (.Compare l [.Lt] [r] pos) (decide (i < j)) :=
  .cmp hm hb hl hr fun s E x y as bs _ rx ry => rdsI rx fun _ => rdsI ry fun _ => PyProof.Rows.lt_int ⟨rfl, keeps_refl _⟩
theorem TV.le (hm : Mono G) {f g : Bool} {l r : Expr} {pos : Pos} {i j : Int} (hl : EV w A env G f l (.int i)) (hr : EV w A env G g r (.int j)) (hb : autoParam (behindInMarks .LtE r = false) byRfl) : TV w A env G (.Compare l [.LtE] [r] pos) (decide (i ≤ j)) :=
  .cmp hm hb hl hr fun s E x y as bs _ rx ry => rdsI rx fun _ => rdsI ry fun _ => PyProof.Rows.le_int ⟨rfl, keeps_refl _⟩
theorem TV.gt (hm : Mono G) {f g : Bool} {l r : Expr} {pos : Pos} {i j : Int} (hl : EV w A env G f l (.int i)) (hr : EV w A env G g r (.int j)) (hb : autoParam (behindInMarks .Gt r = false) byRfl) : TV w A env G (.Compare l [.Gt] [r] pos) (decide (j < i)) :=
  .cmp hm hb hl hr fun s E x y as bs _ rx ry => rdsI rx fun _ => rdsI ry fun _ => PyProof.Rows.gt_int ⟨rfl, keeps_refl _⟩
theorem TV.eqi (hm : Mono G) {f g : Bool} {l r : Expr} {pos : Pos} {i j : Int} (hl : EV w A env G f l (.int i)) (hr : EV w A env G g r (.int j)) (hb : autoParam (behindInMarks .Eq r = false) byRfl) : TV w A env G (.Compare l [.Eq] [r] pos) (i == j) :=
  .cmp hm hb hl hr fun s E x y as bs _ rx ry => rdsI rx fun _ => rdsI ry fun _ => PyProof.Rows.eq_int ⟨rfl, keeps_refl _⟩
theorem TV.nei (hm : Mono G) {f g : Bool} {l r : Expr} {pos : Pos} {i j : Int} (hl : EV w A env G f l (.int i)) (hr : EV w A env G g r (.int j)) (hb : autoParam (behindInMarks .NotEq r = false) byRfl) : TV w A env G (.Compare l [.NotEq] [r] pos) (i != j) :=
  .cmp hm hb hl hr fun s E x y as bs _ rx ry => rdsI rx fun _ => rdsI ry fun _ => PyProof.Rows.ne_int ⟨rfl, keeps_refl _⟩
theorem TV.ned (hm : Mono G) (hu : A.units + 64 < cLine) {f g : Bool} {l r : Expr} {pos : Pos} {a b : PyData} (ha : SeqAt.shaped a = true) (hb' : SeqAt.shaped b = true) (hl : EV w A env G f l a) (hr : EV w A env G g r b) (hb : autoParam (behindInMarks .NotEq r = false) byRfl) :
    TV w A env G (.Compare l [.NotEq] [r] pos) (!PyData.eqv a b) :=
  .cmp hm hb hl hr fun s E x y as bs _ rx ry => SeqAt.compareNe_shaped rx.reads ry.reads ha hb' hu ⟨rfl, keeps_refl _⟩
theorem TV.and (hm : Mono G) {x y : Expr} {pos : Pos} {a b : Bool} (hx : TV w A env G x a) (hy : a = true → TV w A env G y b) : TV w A env G (.BoolOp .And [x, y] pos) (a && b) := by
  intro s E g
  refine isTrue_and (tv_go (hx s E g) fun s₁ k₁ => ?_)
  cases a with
  | false => simp; exact k₁
  | true =>
    simp
    refine isTrue_and (tv_go (hy rfl s₁ E (hm _ _ (kf_of k₁) g)) fun s₂ k₂ => ?_)
    cases b with
    | false => simp; exact keeps_trans k₁ k₂
    | true => simp; exact isTrue_and_nil ⟨rfl, keeps_trans k₁ k₂⟩
theorem TV.or (hm : Mono G) {x y : Expr} {pos : Pos} {a b : Bool} (hx : TV w A env G x a) (hy : a = false → TV w A env G y b) : TV w A env G (.BoolOp .Or [x, y] pos) (a || b) := by
  intro s E g
  refine isTrue_or (tv_go (hx s E g) fun s₁ k₁ => ?_)
  cases a with
  | true => simp; exact k₁
  | false =>
    simp
    refine isTrue_or (tv_go (hy rfl s₁ E (hm _ _ (kf_of k₁) g)) fun s₂ k₂ => ?_)
    cases b with
    | true => simp; exact keeps_trans k₁ k₂
    | false => simp; exact isTrue_or_nil ⟨rfl, keeps_trans k₁ k₂⟩
theorem TV.ofEV {f : Bool} {c : Expr} {b : Bool} (h : EV w A env G f c (.bool b)) (hp : autoParam (PySem.isTrue c env (eval c env) = (do let v ← eval c env; standAt c.pos; holding [v] (truthy v))) byRfl) : TV w A env G c b := fun s E g =>
  isTrue_plain (ev_go (h s E g) fun v s₁ as ra k => rdsB ra (wpAny_truthy_bool ⟨rfl, k⟩)) hp
theorem EV.andB (hm : Mono G) {f g : Bool} {x y : Expr} {pos : Pos} {a b : Bool} (hx : EV w A env G f x (.bool a)) (hy : a = true → EV w A env G g y (.bool b)) : EV w A env G true (.BoolOp .And [x, y] pos) (.bool (a && b)) := by
  refine EV.new (f := false) ?_ rfl
  intro s E g
  refine wpAny_And2 (ev_go (hx s E g) fun v s₁ as ra k₁ => ?_)
  refine rdsB ra (wpAny_truthy_bool ?_)
  cases a with
  | false => exact ⟨⟨[], .bool _, fun _ _ h => nomatch h⟩, k₁⟩
  | true =>
    refine ev_go (hy rfl s₁ E (hm _ _ (kf_of k₁) g)) fun v s₂ as ra k₂ => ?_
    exact ⟨⟨as, ra, ff⟩, keeps_trans k₁ k₂⟩
theorem EV.ite (hm : Mono G) {t x y : Expr} {pos : Pos} {c : Bool} {d : PyData} (hf : flat d = true) (ht : TV w A env G t c) (hx : c = true → ∃ f, EV w A env G f x d) (hy : c = false → ∃ f, EV w A env G f y d) : EV w A env G true (.IfExp t x y pos) d := by
  refine EV.new (f := false) ?_ hf
  intro s E g
  refine IfExp_ (tv_go (ht s E g) fun s₁ k₁ => ?_)
  cases c with
  | true =>
    obtain ⟨f, hx⟩ := hx rfl
    refine ev_go (hx s₁ E (hm _ _ (kf_of k₁) g)) fun v s₂ as ra k₂ => ?_
    exact ⟨⟨as, ra, ff⟩, keeps_trans k₁ k₂⟩
  | false =>
    obtain ⟨f, hy⟩ := hy rfl
    refine ev_go (hy s₁ E (hm _ _ (kf_of k₁) g)) fun v s₂ as ra k₂ => ?_
    exact ⟨⟨as, ra, ff⟩, keeps_trans k₁ k₂⟩

/- several expressions, one behind the other -/
noncomputable def EVs (w : World) (A : Around) (env : Env) (G : Heap → Prop) (f : Bool) (pos : Pos) (es : List Expr) (ds : List PyData) : Prop :=
  ∀ (s : Shared) (E : Value → Shared → Prop), G s.heap → wpAny (model thePr w) A (spliced (backTo pos (starEach es env))) (fun vs s' => (∃ as, RdsAll s'.heap vs ds as ∧ (f = true → ∀ a ∈ as, s.heap.get? a = none)) ∧ Keeps s s') E s
theorem EVs.nil {f : Bool} {pos : Pos} : EVs w A env G f pos [] [] := fun s E _ => spliced_nil ⟨⟨[], .nil, fun _ _ h => nomatch h⟩, keeps_refl _⟩
theorem EVs.cons (hm : Mono G) {f : Bool} {pos : Pos} {e : Expr} {es : List Expr} {d : PyData} {ds : List PyData} (hx : EV w A env G f e d) (hr : EVs w A env G f pos es ds) (hs : autoParam (starEach (e :: es) env = (false, eval e env) :: starEach es env) byRfl) :
    EVs w A env G f pos (e :: es) (d :: ds) := by
  intro s E g
  rw [hs]
  show wpAny _ A (spliced ((false, eval e env) :: backTo pos (starEach es env))) _ E s
  refine spliced_cons (ev_goN (hx s E g) fun v s₁ as ra na k₁ => ?_)
  refine evs_goN (hr s₁ E (hm _ _ (kf_of k₁) g)) fun vs s₂ bs rb nb k₂ => ?_
  refine ⟨⟨as ++ bs, .cons (rds_kp (kp_of k₂) ra) rb, fun hf a ha => ?_⟩, keeps_trans k₁ k₂⟩
  rcases List.mem_append.mp ha with h | h
  · exact na hf a h
  · exact none_of_keeps k₁ (nb hf a h)
theorem EVs.weak {f : Bool} {pos : Pos} {es : List Expr} {ds : List PyData} (h : EVs w A env G f pos es ds) : EVs w A env G false pos es ds := fun s E g =>
  wpAny_mono (h s E g) (fun _ _ x => by obtain ⟨⟨as, r, _⟩, k⟩ := x; exact ⟨⟨as, r, ff⟩, k⟩) fun _ _ x => x
theorem readsAll_length {h : Heap} {vs : List Value} {ds : List PyData} {as : List Addr} (r : RdsAll h vs ds as) : vs.length = ds.length := SeqAt.ReadsAll.length ds vs as r.reads
theorem EV.list {f : Bool} {pos : Pos} {es : List Expr} {ds : List PyData} (h : EVs w A env G f pos es ds) (hz : ds.length ≤ sizeLine) : EV w A env G f (.List es pos) (.list ds) := by
  intro s E g
  refine List_ (evs_goN (h s E g) fun vs s₁ as ra na k₁ => ?_)
  refine wpAny_newList ?_ (by rw [readsAll_length ra]; exact hz)
  refine ⟨⟨s₁.heap.objs.size :: as, .list (Heap.get?_push_size _ rfl) (by simpa using rdsAll_kp (kp_of (keeps_push s₁ _)) ra), fun hf a ha => ?_⟩, keeps_trans k₁ (keeps_push _ _)⟩
  rcases List.mem_cons.mp ha with rfl | h
  · exact none_of_keeps k₁ (fresh_size _)
  · exact na hf a h
theorem EV.tuple {f : Bool} {k : Nat} {pos : Pos} {es : List Expr} {ds : List PyData} (h : EVs w A env G f pos es ds) (hz : ds.length ≤ sizeLine) : EV w A env G f (.Tuple es k pos) (.tuple ds) := by
  intro s E g
  refine Tuple_ (evs_goN (h s E g) fun vs s₁ as ra na k₁ => ?_)
  refine wpAny_newTuple ?_ (by rw [readsAll_length ra]; exact hz)
  exact ⟨⟨as, .tuple (Heap.get?_push_size _ rfl) (by simpa using rdsAll_kp (kp_of (keeps_push s₁ _)) ra), na⟩, keeps_trans k₁ (keeps_push _ _)⟩

/-! ## items -/
theorem readsAll_get {h : Heap} {vs : List Value} {ds : List PyData} {as : List Addr} (r : RdsAll h vs ds as) {i : Nat} {d : PyData} (e : ds[i]? = some d) : ∃ v bs, vs[i]? = some v ∧ Rds h v d bs :=
  RdsAll.ind (C := fun vs ds _ => ∀ i : Nat, ds[i]? = some d → ∃ v bs, vs[i]? = some v ∧ Rds h v d bs) (fun _ e => nomatch e) (fun _ _ _ _ _ _ r _ q i => Nat.casesOn (motive := fun i => (_ :: _)[i]? = some d → ∃ v bs, (_ :: _)[i]? = some v ∧ Rds h v d bs) i (fun e => ⟨_, _, rfl, Option.some.inj e ▸ r⟩) fun i => q i) r i e

theorem EV.item (hm : Mono G) {f g : Bool} {x i : Expr} {pos : Pos} {ds : List PyData} {k : Int} {d : PyData} (h0 : 0 ≤ k) (hfit : k < 2 ^ 63) (hd : ds[k.toNat]? = some d) (hx : EV w A env G f x (.list ds)) (hi : EV w A env G g i (.int k))
    (hs : ∀ o i', subscripted i false o i' = operate [o, i'] (getItem o i') := by intro _ _; rfl) : EV w A env G false (.Subscript x i pos) d := by
  intro s E g
  refine Subscript_ (ev_go (hx s E g) fun o s₁ as ra k₁ => ?_)
  refine ev_go (hi s₁ E (hm _ _ (kf_of k₁) g)) fun v s₂ bs rb k₂ => ?_
  have ra := rds_kp (kp_of k₂) ra
  refine rdsI rb fun _ => rdsL ra fun a it n cs _ ho r => ?_
  obtain ⟨v, bs, hv, rv⟩ := readsAll_get r hd
  have hl : s₂.heap.IsList _ _ := ⟨_, ho, rfl, _, rfl⟩
  exact tail_any hl.typeIs slot_list_getitem.lookup (wpAny_getItem_list hl h0 hfit (by simpa using hv) ⟨⟨bs, rv, ff⟩, keeps_trans k₁ k₂⟩) (hs _ _)
theorem EV.itemT (hm : Mono G) {f g : Bool} {x i : Expr} {pos : Pos} {ds : List PyData} {k : Int} {d : PyData} (h0 : 0 ≤ k) (hfit : k < 2 ^ 63) (hd : ds[k.toNat]? = some d) (hx : EV w A env G f x (.tuple ds)) (hi : EV w A env G g i (.int k))
    (hs : ∀ o i', subscripted i false o i' = operate [o, i'] (getItem o i') := by intro _ _; rfl) : EV w A env G false (.Subscript x i pos) d := by
  intro s E g
  refine Subscript_ (ev_go (hx s E g) fun o s₁ as ra k₁ => ?_)
  refine ev_go (hi s₁ E (hm _ _ (kf_of k₁) g)) fun v s₂ bs rb k₂ => ?_
  have ra := rds_kp (kp_of k₂) ra
  refine rdsI rb fun _ => rdsT ra fun a it n ho r => ?_
  obtain ⟨v, bs, hv, rv⟩ := readsAll_get r hd
  have ht : IsTup s₂.heap _ _ := ⟨_, ho, rfl, _, rfl⟩
  have hlt : k.toNat < ds.length := (List.getElem?_eq_some_iff.mp hd).1
  refine tail_any ht.typeIs slot_tuple_getitem.lookup (getItem_tuple ht (by omega) hfit (j := k.toNat) ?_ (by simpa using hv) ⟨⟨bs, rv, ff⟩, keeps_trans k₁ k₂⟩) (hs _ _)
  have hl := readsAll_length r
  simp only [Array.length_toList] at hl
  unfold seqIndex?
  simp only [show ¬ k < 0 by omega, if_false]
  rw [if_pos (by simp; omega)]
end
end Mine
set_option maxRecDepth 100000
set_option linter.all false
namespace Mine
open PySem PySem.Spec PySem.Calls PyProof.Rows PySem.W

/- the locals at C bind these names to these data -/
noncomputable def LB (C : Addr) (bs : List (Str × PyData)) (h : Heap) : Prop := ∃ m, h.Ns C m ∧ ∀ x d, (x, d) ∈ bs → ∃ v as, m x = some v ∧ Rds h v d as
theorem LB.kp {C : Addr} {bs : List (Str × PyData)} {h h' : Heap} (k : Kp h h') (x : LB C bs h) : LB C bs h' := by
  obtain ⟨m, n, r⟩ := x
  exact ⟨m, ns_kp k n, fun x d hx => by obtain ⟨v, as, e, q⟩ := r x d hx; exact ⟨v, as, e, rds_kp k q⟩⟩
theorem mono_LB {G : Heap → Prop} (hm : Mono G) (C : Addr) (bs : List (Str × PyData)) : Mono fun h => G h ∧ LB C bs h := fun h h' k x => ⟨hm h h' k x.1, x.2.kp (.of_keep k)⟩

section
variable {S : List Addr} {h h' : Heap} (ns : ∀ b ∈ S, ∀ o vs n, h.get? b = some o → o.data ≠ .seq vs n) (k : ∀ b o, b ∉ S → h.get? b = some o → h'.get? b = some o)
include ns k
theorem off_keeps {b : Addr} {o : Obj} {vs : Array Value} {n : Nat} (e : h.get? b = some o) (hd : o.data = .seq vs n) : h'.get? b = some o := k _ _ (fun hb => ns _ hb _ _ _ e hd) e
theorem rds_off {v : Value} {d : PyData} {as : List Addr} (r : Rds h v d as) : Rds h' v d as := rds_mv (S := fun _ => True) (fun _ _ _ _ e => off_keeps ns k e rfl) (fun _ _ _ e => off_keeps ns k e rfl) r fun _ _ => trivial
theorem rdsAll_off {vs : List Value} {ds : List PyData} {as : List Addr} (r : RdsAll h vs ds as) : RdsAll h' vs ds as := rdsAll_mv (S := fun _ => True) (fun _ _ _ _ e => off_keeps ns k e rfl) (fun _ _ _ e => off_keeps ns k e rfl) r fun _ _ => trivial
end
theorem ns_noseq {h : Heap} {C : Addr} {m : Str → Option Value} (n : h.Ns C m) : ∀ b ∈ [C], ∀ o vs n, h.get? b = some o → o.data ≠ .seq vs n := by
  intro b hb o vs k e q
  simp at hb
  subst hb
  obtain ⟨o', es, ep, h1, h2, _⟩ := n
  rw [h1] at e; cases e; rw [h2] at q; cases q
theorem rds_but {C : Addr} {h h' : Heap} {m : Str → Option Value} (n : h.Ns C m) (k : ∀ b o, b ≠ C → h.get? b = some o → h'.get? b = some o) {v : Value} {d : PyData} {as : List Addr} (r : Rds h v d as) : Rds h' v d as :=
  rds_off (ns_noseq n) (fun b o hb e => k b o (by simpa using hb) e) r
theorem rdsAll_but {C : Addr} {h h' : Heap} {m : Str → Option Value} (n : h.Ns C m) (k : ∀ b o, b ≠ C → h.get? b = some o → h'.get? b = some o) {v : List Value} {d : List PyData} {as : List Addr} (r : RdsAll h v d as) : RdsAll h' v d as :=
  rdsAll_off (ns_noseq n) (fun b o hb e => k b o (by simpa using hb) e) r

/- a target that binds names of the frame -/
noncomputable def Asg (w : World) (A : Around) (env : Env) (target : Expr) (d : PyData) (bs : List (Str × PyData)) : Prop :=
  ∀ (s : Shared) (E : Value → Shared → Prop) (Q : Unit → Shared → Prop) (v : Value) (as : List Addr) (m : Str → Option Value), Rds s.heap v d as → s.heap.Ns env.locals m →
    (∀ h' tk, LB env.locals bs h' → (∀ b o, b ≠ env.locals → s.heap.get? b = some o → h'.get? b = some o) → Q () { s with heap := h', toks := tk }) → wpAny (model thePr w) A (assign target env v) Q E s

section
variable {w : World} {A : Around} {env : Env}
theorem Asg.name {x : Str} {px : Pos} {d : PyData} (hx : env.kindOf x = some .local) (hp : (env.scope.kind == .class || (env.scope.kind == .module && env.locals != env.globals)) = false) : Asg w A env (.Name x px) d [(x, d)] := by
  intro s E Q v as m r n hQ
  refine wpAny_assign_Name (wpAny_storeName_local hx n (fun h₂ hn₂ hs₂ => hQ h₂ _ ⟨_, hn₂, fun y dy hy => ?_⟩ hs₂.extBut) hp)
  simp at hy
  obtain ⟨rfl, rfl⟩ := hy
  exact ⟨v, as, by simp, rds_but n hs₂.extBut r⟩
theorem Asg.tuple3 {x y z : Str} {px py pz pos : Pos} {k : Nat} {a b c : PyData} (hh : A.handled = none) (hx : env.kindOf x = some .local) (hy : env.kindOf y = some .local) (hz : env.kindOf z = some .local)
    (hxy : x ≠ y) (hxz : x ≠ z) (hyz : y ≠ z)
    (hp : (env.scope.kind == .class || (env.scope.kind == .module && env.locals != env.globals)) = false) : Asg w A env (.Tuple [.Name x px, .Name y py, .Name z pz] k pos) (.tuple [a, b, c]) [(x, a), (y, b), (z, c)] := by
  intro s E Q v as m r n hQ
  refine rdsT3 r fun t nn x1z x2z x3z b1z b2z b3z ho ra rb rc => ?_
  have ht : s.heap.IsTuple t _ := ⟨_, ho, rfl, _, rfl⟩
  refine wpAny_assign_Tuple hh ht rfl rfl fun h₁ he₁ => ?_
  have hL : env.locals ≠ s.heap.objs.size := Nat.ne_of_lt n.lt
  have up₁ : ∀ c o, s.heap.get? c = some o → h₁.get? c = some o := fun c o e => he₁ c o (Nat.ne_of_lt (Heap.lt_size e)) e
  have n₁ : h₁.Ns env.locals m := ns_kp (.of_keep up₁) n
  have ra := rds_kp (.of_keep up₁) ra
  have rb := rds_kp (.of_keep up₁) rb
  have rc := rds_kp (.of_keep up₁) rc
  refine assignInOrder_cons (wpAny_assign_Name (wpAny_storeName_local hx n₁ (fun h₂ n₂ s₂ => ?_) hp))
  have ra := rds_but n₁ s₂.extBut ra
  have rb := rds_but n₁ s₂.extBut rb
  have rc := rds_but n₁ s₂.extBut rc
  refine assignInOrder_cons (wpAny_assign_Name (wpAny_storeName_local hy n₂ (fun h₃ n₃ s₃ => ?_) hp))
  have ra := rds_but n₂ s₃.extBut ra
  have rb := rds_but n₂ s₃.extBut rb
  have rc := rds_but n₂ s₃.extBut rc
  refine assignInOrder_cons (wpAny_assign_Name (wpAny_storeName_local hz n₃ (fun h₄ n₄ s₄ => ?_) hp))
  have ra := rds_but n₃ s₄.extBut ra
  have rb := rds_but n₃ s₄.extBut rb
  have rc := rds_but n₃ s₄.extBut rc
  refine assignInOrder_nil (hQ h₄ _ ⟨_, n₄, fun q dq hq => ?_⟩ fun b o hb e => s₄.extBut b o hb (s₃.extBut b o hb (s₂.extBut b o hb (up₁ b o e))))
  simp at hq
  rcases hq with ⟨rfl, rfl⟩ | ⟨rfl, rfl⟩ | ⟨rfl, rfl⟩
  · exact ⟨_, _, by simp [hxy, hxz], ra⟩
  · exact ⟨_, _, by simp [hyz], rb⟩
  · exact ⟨_, _, by simp, rc⟩
end

/- a source of a loop: an iterator at I whose items read xs in the heap that stood before it -/
structure Src (w : World) (A : Around) (I : Addr) (fp wr : List Addr) (xs : List PyData) (P : Nat → Value → Prop) (St : Nat → Heap → Prop) (h : Heap) : Prop where
  walks : Walks thePr w A I fp wr xs.length P St
  new : ∀ b ∈ wr, h.get? b = none
  item : ∀ i v, P i v → ∀ d, xs[i]? = some d → ∃ as, Rds h v d as
  loose : ∀ i h b, St i h → b ∈ wr → ∀ o, h.get? b = some o → tabby o = true
  noseq : ∀ i h b, St i h → b ∈ wr → ∀ o vs n, h.get? b = some o → o.data ≠ .seq vs n
  own : ∀ i target v (s : Shared) (E : Value → Shared → Prop) (Q : Unit → Shared → Prop), St i s.heap → Q () s → wpAny (model thePr w) A (letOwnedTupleGo target (.ref I) v) Q E s

noncomputable def IT (w : World) (A : Around) (env : Env) (G : Heap → Prop) (iter : Expr) (xs : List PyData) : Prop :=
  ∀ (s : Shared) (E : Value → Shared → Prop) (Q : Value → Shared → Prop), G s.heap →
    (∀ s₁ s₂ I fp wr P St, Keeps s s₁ → Keeps s₁ s₂ → Src w A I fp wr xs P St s₁.heap → St 0 s₂.heap → (∀ b ∈ fp, b < s₂.heap.objs.size) → Q (.ref I) s₂) →
    wpAny (model thePr w) A (eval iter env) (fun x s₁ => wpAny (model thePr w) A (pyIter x) Q E s₁) E s

/- the tests of a clause -/
noncomputable def TVs (w : World) (A : Around) (env : Env) (G : Heap → Prop) (ifs : List Expr) (b : Bool) : Prop :=
  ∀ (s : Shared) (E : Value → Shared → Prop), G s.heap →
    wpAny (model thePr w) A (forIn ifs true fun c r => if r = true then do let ok ← isTrue c env (eval c env); pure (ForInStep.yield ok) else pure (ForInStep.yield r)) (fun ok s' => ok = b ∧ Keeps s s') E s
section
variable {w : World} {A : Around} {env : Env} {G : Heap → Prop}
theorem TVs.nil : TVs w A env G [] true := fun s E _ => wpAny_tests_nil ⟨rfl, keeps_refl _⟩
theorem TVs.one {c : Expr} {b : Bool} (h : TV w A env G c b) : TVs w A env G [c] b := fun s E g => wpAny_tests_one (h s E g)

theorem compLoop {elt target iter : Expr} {ifs : List Expr} {scope : Scope} {pos : Pos} {it acc : Value} {R : Result → Shared → Prop} {s : Shared} (I : Nat → Shared → Prop)
    (turn : ∀ n s, I n s → wpAny (model thePr w) A (pyNext it) (fun r s₁ => match r with
      | none => R (.ok .next) s₁
      | some v => wpAny (model thePr w) A (letOwnedTupleGo target it v) (fun _ s₀ => wpAny (model thePr w) A (assign target env v) (fun _ s₂ =>
          wpAny (model thePr w) A (forIn ifs true fun c r => if r = true then do let ok ← isTrue c env (eval c env); pure (ForInStep.yield ok) else pure (ForInStep.yield r)) (fun ok s₃ =>
            if ok = true then wpAny (model thePr w) A (eval elt env) (fun x s₄ =>
              wpAny (model thePr w) A (call (.builtin "list.append") [acc, x]) (fun _ s₅ => ∃ m, m < n ∧ I m s₅) (notedBy (model thePr w) A env fun e s' => R (.error e) s') s₄) (notedBy (model thePr w) A env fun e s' => R (.error e) s') s₃
            else ∃ m, m < n ∧ I m s₃) (notedBy (model thePr w) A env fun e s' => R (.error e) s') s₂) (notedBy (model thePr w) A env fun e s' => R (.error e) s') s₀)
          (notedBy (model thePr w) A env fun e s' => R (.error e) s') s₁) (notedBy (model thePr w) A env fun e s' => R (.error e) s') s)
    (n : Nat) (h : I n s) :
    codeAny (model thePr w) A (.compLoop (.ListComp elt [⟨target, iter, ifs, 0⟩] scope pos) 0 it acc env) R s := by
  refine codeAny_loop rfl I (fun n s hI => ?_) n h
  show wpAny _ A ((compTurn (.ListComp elt [⟨target, iter, ifs, 0⟩] scope pos) 0 it acc env).onRaise (fun x => do noteFrame x env; theTreesLotGoes x)) _ _ s
  refine wpAny_noted ?_
  rw [compTurn_list]
  refine wpAny_bind (wpAny_standAt (wpAny_bind (wpAny_mono (turn n s hI) (fun r s₁ h₁ => ?_) fun _ _ h' => h')))
  cases r with
  | none => exact wpAny_pure h₁
  | some v =>
    refine wpAny_bind (wpAny_mono h₁ (fun _ s₀ h₀' => ?_) fun _ _ h' => h')
    refine wpAny_bind (wpAny_mono h₀' (fun _ s₂ h₂ => wpAny_bind (wpAny_mono h₂ (fun ok s₃ h₃ => ?_) fun _ _ h' => h')) fun _ _ h' => h')
    cases ok with
    | false => exact wpAny_pure ⟨rfl, h₃⟩
    | true =>
      exact wpAny_bind (wpAny_bind (wpAny_mono h₃ (fun x s₄ h₄ => wpAny_bind (wpAny_mono h₄ (fun _ s₅ h₅ => wpAny_pure (wpAny_pure ⟨rfl, h₅⟩)) fun _ _ h' => h')) fun _ _ h' => h'))

theorem rdsAll_snoc {h : Heap} {v : Value} {d : PyData} (r : Rds h v d []) {vs : List Value} {ds : List PyData} {as : List Addr} (q : RdsAll h vs ds as) : RdsAll h (vs ++ [v]) (ds ++ [d]) as :=
  RdsAll.ind (C := fun vs ds as => RdsAll h (vs ++ [v]) (ds ++ [d]) as) (.cons (as := []) (bs := []) r .nil) (fun _ _ _ _ _ _ r1 _ q => .cons r1 q) q
theorem flatAll_of {ds : List PyData} (h : ∀ d ∈ ds, flat d = true) : flatAll ds = true := flatAll_iff.mpr h

theorem list_ne_tup {i j : Array Value} {n m : Nat} (e : some (listO i n) = some (tupO j m)) : False := by simp at e
theorem rds_flatOff {D : Addr} {h h' : Heap} (hD : ∃ vs n, h.get? D = some (listO vs n)) (k : ∀ b o, b ≠ D → h.get? b = some o → h'.get? b = some o) {v : Value} {d : PyData} {as : List Addr} (r : Rds h v d as) (f : flat d = true) : Rds h' v d as :=
  rds_mv (S := fun _ => False) (fun _ _ _ f => f.elim) (fun a vs n e => k _ _ (fun q => hD.elim fun _ ⟨_, e'⟩ => list_ne_tup (e'.symm.trans (q ▸ e))) e) r (by rw [rds_flat r f]; exact fun _ h => nomatch h)
theorem rdsAll_flatOff' {D : Addr} {h h' : Heap} (hD : ∃ vs n, h.get? D = some (listO vs n)) (k : ∀ b o, b ≠ D → h.get? b = some o → h'.get? b = some o) {vs : List Value} {ds : List PyData} {as : List Addr} (r : RdsAll h vs ds as) (f : flatAll ds = true) : RdsAll h' vs ds as :=
  rdsAll_mv (S := fun _ => False) (fun _ _ _ f => f.elim) (fun a vs n e => k _ _ (fun q => hD.elim fun _ ⟨_, e'⟩ => list_ne_tup (e'.symm.trans (q ▸ e))) e) r (by rw [rdsAll_flat r f]; exact fun _ h => nomatch h)
theorem rdsAll_flatOff {D : Addr} {h h' : Heap} {vs : List Value} {ds : List PyData} {as : List Addr} (r : RdsAll h vs ds as) (f : flatAll ds = true) (hD : ∃ vs n, h.get? D = some (listO vs n)) (k : ∀ b o, b ≠ D → h.get? b = some o → h'.get? b = some o) : RdsAll h' vs ds as := rdsAll_flatOff' hD k r f

theorem EV.comp {elt target iter : Expr} {ifs : List Expr} {scope : Scope} {cl : List (Str × Addr)} {pos : Pos} {xs : List PyData} (hm : Mono G) (hsrc : IT w A env G iter xs)
    (hclos : closureFor scope env = pure cl) (hcell : ∀ y ∈ scope.names, y.2 ≠ .cell) (hkind : scope.kind = .function) (hnames : ∀ y ∈ scope.names, y.2 = .local → scope.names.lookup y.1 = some .local)
    (bs : PyData → List (Str × PyData)) (hasg : ∀ C d, d ∈ xs → Asg w A (compEnvC scope cl C env) target d (bs d))
    (p : PyData → Bool) (f : PyData → PyData)
    (ht : ∀ C d, d ∈ xs → TVs w A (compEnvC scope cl C env) (fun h => G h ∧ LB C (bs d) h) ifs (p d))
    (he : ∀ C d, d ∈ xs → p d = true → ∃ fl, EV w A (compEnvC scope cl C env) (fun h => G h ∧ LB C (bs d) h) fl elt (f d))
    (hfl : ∀ d ∈ xs, p d = true → flat (f d) = true) (hsz : xs.length ≤ sizeLine)
    (hs : ∀ x, foldedSetIterable iter env x = pure x := by intro _; rfl) :
    EV w A env G true (.ListComp elt [⟨target, iter, ifs, 0⟩] scope pos) (.list ((xs.filter p).map f)) := by
  intro s E g
  rw [eval_ListComp]
  refine wpAny_comprehension_free (use := none) rfl hs hclos hkind hnames ?_
  refine hsrc s E _ g fun s₁ s₂ I fp wr P St k₁ k₂ src st₀ hfp => ?_
  refine wpAny_newObj_type (wpAny_newFunctionEnv hcell (by intro y hy; simp at hy) (fun h₁ hns₁ hsb₁ => ?_) hkind)
  dsimp only at hns₁ hsb₁ ⊢
  generalize hH2 : s₂.heap.push { cls := .type "list", dict := none, data := .seq ([] : List Value).toArray } = H2 at hns₁ hsb₁ ⊢
  have hC : H2.objs.size = s₂.heap.objs.size + 1 := by rw [← hH2, Heap.size_push]
  have hDC : s₂.heap.objs.size ≠ H2.objs.size := by rw [hC]; exact Nat.ne_of_lt (Nat.lt_succ_self _)
  have below : ∀ b, b < s₂.heap.objs.size → b ≠ H2.objs.size ∧ b ≠ s₂.heap.objs.size := fun b hb => ⟨by rw [hC]; exact Nat.ne_of_lt (Nat.lt_succ_of_lt hb), Nat.ne_of_lt hb⟩
  have hDf : s₂.heap.objs.size ∉ fp := fun hm => Nat.lt_irrefl _ (hfp _ hm)
  have hCf : H2.objs.size ∉ fp := fun hm => by have := hfp _ hm; rw [hC] at this; exact Nat.lt_irrefl _ (Nat.lt_of_succ_lt this)
  have hDw : s₂.heap.objs.size ∉ wr := fun h => hDf (src.walks.sub _ h)
  have hCw : H2.objs.size ∉ wr := fun h => hCf (src.walks.sub _ h)
  have old : ∀ b o, s₂.heap.get? b = some o → h₁.get? b = some o := fun b o e => hsb₁.extBut b o (below b (Heap.lt_size e)).1 (Heap.get?_push_of_some _ (hH2 ▸ Heap.get?_push_of_some _ e))
  have hacc : h₁.get? s₂.heap.objs.size = some (listO #[] 0) := hsb₁.extBut _ _ hDC (Heap.get?_push_of_some _ (hH2 ▸ Heap.get?_push_size _ rfl))
  have hst₁ : St 0 h₁ := src.walks.frame _ _ _ st₀ fun b _ o e => old b o e
  have g₁ : G s₁.heap := hm _ _ (kf_of k₁) g
  -- what stood in s₁ is none of C, D, wr
  have off : ∀ b o, s₁.heap.get? b = some o → b ≠ H2.objs.size ∧ b ≠ s₂.heap.objs.size ∧ b ∉ wr := fun b o e =>
    ⟨(below b (Heap.lt_size (keeps_get k₂ e))).1, (below b (Heap.lt_size (keeps_get k₂ e))).2, fun hb => by rw [src.new b hb] at e; cases e⟩
  have old₁ : ∀ b o, s₁.heap.get? b = some o → h₁.get? b = some o := fun b o e => old b o (keeps_get k₂ e)
  have loop : ∀ s₃ : Shared, s₃ = { s₂ with heap := h₁, toks := s₂.toks + ([] : List (Str × Value)).length } →
      codeAny (model thePr w) A (.compLoop (.ListComp elt [⟨target, iter, ifs, 0⟩] scope pos) 0 (.ref I) (.ref s₂.heap.objs.size) (compEnvC scope cl H2.objs.size env))
        (compPost (model thePr w) A E none (fun v s' => (∃ as, Rds s'.heap v (.list ((xs.filter p).map f)) as ∧ (true = true → ∀ a ∈ as, s.heap.get? a = none)) ∧ Keeps s s') (.ref s₂.heap.objs.size) H2.objs.size) s₃ := by
    rintro s₃ rfl
    refine compLoop (fun k s' => ∃ H tk m ys n i, s' = { s₂ with heap := H, toks := tk } ∧ i ≤ xs.length ∧ k = xs.length + 1 - i ∧ St i H ∧ H.get? s₂.heap.objs.size = some (listO ys n) ∧ RdsAll H ys.toList (((xs.take i).filter p).map f) [] ∧ H.Ns H2.objs.size m ∧
        (∀ b o, s₁.heap.get? b = some o → H.get? b = some o)) ?_ (xs.length + 1) ⟨h₁, _, _, #[], 0, 0, rfl, Nat.zero_le _, rfl, hst₁, hacc, .nil, hns₁, old₁⟩
    rintro k s' ⟨H, tk, m, ys, n, i, rfl, hi, rfl, hst, hD, hys, hn, hk⟩
    by_cases hlt : i < xs.length
    · refine src.walks.item i _ _ _ hlt hst fun v h₂ tk₂ hPv hst₂ hk₂ => ?_
      obtain ⟨d, hd⟩ : ∃ d, xs[i]? = some d := ⟨_, List.getElem?_eq_getElem hlt⟩
      have hdm : d ∈ xs := List.mem_of_getElem? hd
      obtain ⟨as, hv⟩ := src.item i v hPv d hd
      have kk₂ : ∀ b o, s₁.heap.get? b = some o → h₂.get? b = some o := fun b o e => hk₂ b o (off b o e).2.2 (hk b o e)
      refine src.own (i + 1) _ _ _ _ _ hst₂ ?_
      refine hasg H2.objs.size d hdm _ _ _ v as m (rds_kp (.of_keep kk₂) hv) (hn.at' fun o e => hk₂ _ o hCw e) fun h₃ tk₃ hb₃ hk₃ => ?_
      have kk₃ : ∀ b o, s₁.heap.get? b = some o → h₃.get? b = some o := fun b o e => hk₃ b o (off b o e).1 (kk₂ b o e)
      have hst₃ : St (i + 1) h₃ := src.walks.frame _ _ _ hst₂ fun b hb o e => hk₃ b o (fun h => hCf (by rw [show H2.objs.size = b from h.symm]; exact hb)) e
      have hD₂ : h₂.get? s₂.heap.objs.size = some (listO ys n) := hk₂ _ _ hDw hD
      have hD₃ : h₃.get? s₂.heap.objs.size = some (listO ys n) := hk₃ _ _ hDC hD₂
      have hys₃ : RdsAll h₃ ys.toList (((xs.take i).filter p).map f) [] := by
        obtain ⟨m', n', _⟩ := id hb₃
        have w1 : RdsAll h₂ ys.toList (((xs.take i).filter p).map f) [] := by
          exact rdsAll_off (S := wr) (fun b hb => src.noseq i H b hst hb) (fun b o hb e => hk₂ b o hb e) hys
        exact rdsAll_but (hn.at' fun o e => hk₂ _ o hCw e) hk₃ w1
      have g₃ : G h₃ := hm _ _ kk₃ g₁
      have htake : xs.take (i + 1) = xs.take i ++ [d] := by rw [List.take_succ, hd]; rfl
      refine tv_goK (ht _ d hdm _ _ ⟨g₃, hb₃⟩) fun h₄ tk₄ kk₄ => ?_
      have hst₄ : St (i + 1) h₄ := src.walks.frame _ _ _ hst₃ fun b _ o e => kk₄ b o e
      have hn₄ : ∃ m', h₄.Ns H2.objs.size m' := by obtain ⟨m', n', _⟩ := hb₃; exact ⟨m', ns_kp (.of_keep kk₄) n'⟩
      cases hp : p d with
      | false =>
        simp only [Bool.false_eq_true, if_false]
        obtain ⟨m', n'⟩ := hn₄
        refine ⟨xs.length + 1 - (i + 1), by omega, h₄, tk₄, m', ys, n, i + 1, rfl, hlt, rfl, hst₄, kk₄ _ _ hD₃, ?_, n', fun b o e => kk₄ b o (kk₃ b o e)⟩
        rw [htake, List.filter_append]
        simpa [hp] using rdsAll_kp (.of_keep kk₄) hys₃
      | true =>
        simp only [if_true]
        obtain ⟨fl, hev⟩ := he H2.objs.size d hdm hp
        refine ev_goK (hev _ _ ⟨hm _ _ kk₄ g₃, hb₃.kp (.of_keep kk₄)⟩) fun y as' h₅ tk₅ ry kk₅ => ?_
        have := rds_flat ry (hfl d hdm hp)
        subst this
        have hD₅ : h₅.get? s₂.heap.objs.size = some (listO ys n) := kk₅ _ _ (kk₄ _ _ hD₃)
        have hys₅ := rdsAll_kp (.of_keep kk₅) (rdsAll_kp (.of_keep kk₄) hys₃)
        have hlen : ys.size ≤ sizeLine := by
          have e1 := readsAll_length hys₅
          have e2 : ((xs.take i).filter p).length ≤ (xs.take i).length := List.length_filter_le _ _
          rw [List.length_map, Array.length_toList] at e1
          rw [List.length_take] at e2
          omega
        refine wpAny_list_append_plain (hsz := hlen) (l := s₂.heap.objs.size) (items := ys) ⟨n, hD₅⟩ fun h₆ hl₆ hs₆ => ?_
        obtain ⟨n₆, hl₆⟩ := hl₆
        obtain ⟨m', n'⟩ := hn₄
        have keep₆ : ∀ b o, b ≠ s₂.heap.objs.size → h₅.get? b = some o → h₆.get? b = some o := hs₆.extBut
        refine ⟨xs.length + 1 - (i + 1), by omega, h₆, tk₅, m', ys.push y, n₆, i + 1, rfl, hlt, rfl, ?_, hl₆, ?_, ?_, fun b o e => keep₆ b o (off b o e).2.1 (kk₅ b o (kk₄ b o (kk₃ b o e)))⟩
        · exact src.walks.frame _ _ h₆ hst₄ fun b hb o e => keep₆ b o (fun h => hDf (h ▸ hb)) (kk₅ b o e)
        · rw [htake, List.filter_append, List.map_append]
          simp only [Array.toList_push]
          have hy6 : RdsAll h₅ (ys.toList ++ [y]) (((xs.take i).filter p).map f ++ [f d]) [] := rdsAll_snoc ry hys₅
          have : RdsAll h₆ (ys.toList ++ [y]) (((xs.take i).filter p).map f ++ [f d]) [] := by
            refine rdsAll_flatOff (D := s₂.heap.objs.size) hy6 ?_ ⟨_, _, hD₅⟩ keep₆
            refine flatAll_of fun q hq => ?_
            rcases List.mem_append.mp hq with hq | hq
            · obtain ⟨r, hr, rfl⟩ := List.mem_map.mp hq
              have := List.mem_filter.mp hr
              exact hfl r (List.mem_of_mem_take this.1) this.2
            · simp at hq; subst hq; exact hfl d hdm hp
          simpa [hp] using this
        · exact (ns_kp (.of_keep kk₅) n').at' fun o e => keep₆ _ o (Ne.symm hDC) e
    · have hin : i = xs.length := by omega
      subst hin
      refine src.walks.done _ _ _ hst fun h₂ tk₂ hk₂ => ?_
      refine ⟨m, hn.at' fun o e => hk₂ _ o hCw e, fun h' hs' => ?_⟩
      have hfin : RdsAll h₂ ys.toList ((xs.filter p).map f) [] := by
        have := rdsAll_off (S := wr) (fun b hb => src.noseq _ H b hst hb) (fun b o hb e => hk₂ b o hb e) hys
        rwa [List.take_length] at this
      have hfin' : RdsAll h' ys.toList ((xs.filter p).map f) [] := rdsAll_but (hn.at' fun o e => hk₂ _ o hCw e) hs'.extBut hfin
      have hDf' : h'.get? s₂.heap.objs.size = some (listO ys n) := hs'.extBut _ _ hDC (hk₂ _ _ hDw hD)
      refine ⟨⟨[s₂.heap.objs.size], .list hDf' hfin', fun _ a ha => ?_⟩, keeps_trans k₁ ?_⟩
      · simp at ha; subst ha
        exact none_of_keeps (keeps_trans k₁ k₂) (fresh_size _)
      · obtain ⟨h2', tk2', rfl, kk2⟩ := k₂
        exact ⟨h', tk₂, rfl, fun b o e => hs'.extBut b o (off b o e).1 (hk₂ b o (off b o e).2.2 (hk b o e))⟩
  exact codeAny_compStart_list (loop _ rfl) (src.walks.self 0 _ _ _ hst₁ (loop _ rfl))
end
end Mine
set_option maxRecDepth 100000
set_option linter.all false
namespace Mine
open PySem PySem.Spec PySem.Calls PyProof.Rows PySem.W

/- a name that holds the value v -/
noncomputable def NV (env : Env) (G : Heap → Prop) (x : Str) (v : Value) : Prop := ∀ (M : Model) (A : Around) (pos : Pos) (s : Shared) (E : Value → Shared → Prop) (Q : Value → Shared → Prop), G s.heap → Q v s → wpAny M A (eval (.Name x pos) env) Q E s
/- a callee that callWith calls straight -/
noncomputable def KPr (G : Heap → Prop) (f : Value) : Prop := ∀ (M : Model) h, G h → ∃ k, (k = Keeper.frame ∨ k = Keeper.machine ∨ k = Keeper.boundFrame) ∧ Looks M h (keeperOf f) k
section
variable {w : World} {A : Around} {env : Env} {G : Heap → Prop}
theorem KPr.builtin {id : String} : KPr G (.builtin id) := fun _ _ _ => ⟨.machine, .inr (.inl rfl), Looks.of_pure rfl⟩
theorem KPr.type {T : String} : KPr G (.type T) := fun _ _ _ => ⟨.machine, .inr (.inl rfl), Looks.of_pure rfl⟩
theorem KPr.fn {a : Addr} (h : ∀ h, G h → ∃ o fd, h.get? a = some o ∧ o.data = .func fd) : KPr G (.ref a) := fun M hp g => by
  obtain ⟨o, fd, ho, hd⟩ := h hp g
  refine ⟨.frame, .inl rfl, (Looks.ld (part := none) ho).andThen ?_⟩
  rw [hd]; exact .now

/- a call by place alone -/
theorem EV.call (hm : Mono G) {b : Bool} {x : Str} {f : Value} {e : Expr} {es : List Expr} {p pos : Pos} {ds : List PyData} {c : PyData} (hn : NV env G x f) (hk : KPr G f) (hargs : EVs w A env G b pos (e :: es) ds)
    (hc : ∀ (s : Shared) (E : Value → Shared → Prop) (vs : List Value) (as : List Addr), G s.heap → RdsAll s.heap vs ds as →
      wpAny (model thePr w) A (PySem.call f vs) (fun v s' => (∃ cs, Rds s'.heap v c cs ∧ ∀ a ∈ cs, s.heap.get? a = none) ∧ Keeps s s') E s)
    (he : autoParam (starEach (e :: es) env = (false, eval e env) :: starEach es env) byRfl) (hplain : autoParam ((backTo pos (starEach es env)).any (·.1) = false) byRfl) :
    EV w A env G true (.Call (.Name x p) (e :: es) [] pos) c := by
  intro s E g
  refine wpAny_Call_Name_kw (hn _ _ _ _ _ _ g ?_)
  have ha := hargs s E g
  rw [he] at ha ⊢
  refine callWith_of (P := G) (by show ((false || (backTo pos (starEach es env)).any (·.1)) || false) = false; rw [hplain]; rfl) (hk _) (evalArgs_plain (evs_go ha fun vs s₁ as ra k₁ => ?_))
  have g₁ := hm _ _ (kf_of k₁) g
  refine ⟨g₁, ?_⟩
  refine wpAny_mono (hc s₁ E vs as g₁ ra) (fun v s₂ h₂ => ?_) fun _ _ x => x
  obtain ⟨⟨cs, rc, nc⟩, k₂⟩ := h₂
  exact ⟨⟨cs, rc, fun _ a ha => none_of_keeps k₁ (nc a ha)⟩, keeps_trans k₁ k₂⟩

theorem EV.len (hm : Mono G) {b : Bool} {x : Str} {e : Expr} {p pos : Pos} {ds : List PyData} (hn : NV env G x (.builtin "len")) (he : EV w A env G b e (.list ds)) (hz : (ds.length : Int) < 2 ^ 63)
    (hs : autoParam (starEach [e] env = (false, eval e env) :: starEach [] env) byRfl) :
    EV w A env G true (.Call (.Name x p) [e] [] pos) (.int ds.length) :=
  .call hm hn .builtin (.cons hm he .nil hs) (fun s E vs as g r => by
    refine rds1 r fun x1z b1z r => ?_
    refine rdsL r fun a vs n _ _ ho r => ?_
    have hl := readsAll_length r
    rw [Array.length_toList] at hl
    have : vs.size = ds.length := hl
    refine PyProof.Rows.len_list ⟨_, ho, rfl, _, rfl⟩ (by rw [this]; exact hz) ⟨⟨[], ?_, fun _ h => nomatch h⟩, keeps_toks _ _⟩
    rw [this]; exact .int _ _) hs
theorem EV.lenS (hm : Mono G) {b : Bool} {x : Str} {e : Expr} {p pos : Pos} {t : Str} (hn : NV env G x (.builtin "len")) (he : EV w A env G b e (.str t)) (hz : (t.length : Int) < 2 ^ 63)
    (hs : autoParam (starEach [e] env = (false, eval e env) :: starEach [] env) byRfl) :
    EV w A env G true (.Call (.Name x p) [e] [] pos) (.int t.length) :=
  .call hm hn .builtin (.cons hm he .nil hs) (fun s E vs as g r => by
    refine rds1 r fun x1z b1z r => ?_
    first | refine rdsI r fun _ => ?_ | refine rdsS r fun _ => ?_ | refine rdsB r ?_ | refine rdsN r ?_
    exact PyProof.Rows.len_str (by omega) ⟨⟨[], .int _ _, fun _ h => nomatch h⟩, keeps_toks _ _⟩) hs

/-! ## sources -/
theorem letOwned_off {target : Expr} {I : Addr} {v : Value} {s : Shared} {E : Value → Shared → Prop} {Q : Unit → Shared → Prop} {M : Model} {o : Obj} {n : String} (ho : s.heap.get? I = some o) (hc : o.cls = .type n)
    (hn : ["enumerate", "zip", "dict_itemiterator", "dict_reverseitemiterator", "odict_iterator", "itertools.zip_longest", "itertools.pairwise"].contains n = false) (h : Q () s) :
    wpAny M A (letOwnedTupleGo target (.ref I) v) Q E s := by
  have key : wpAny M A (do
    let (.ref r, .ref a) := (Value.ref I, v) | return
    let o ← load r
    match o.cls, o.data with
    | .type n, .fields vs =>
      if ["enumerate", "zip", "dict_itemiterator", "dict_reverseitemiterator", "odict_iterator", "itertools.zip_longest", "itertools.pairwise"].contains n && vs[0]? == some (rawInt a) then
        rule "for.unpacks-the-owned-tuple"
        updateField r 0 .none
    | _, _ => pure ()) Q E s := by
    cases v <;> first | exact wpAny_pure h | skip
    refine wpAny_bind (wpAny_load ho ?_)
    rw [hc]
    split
    · rename_i n' vs' h1 h2
      cases h1
      rw [hn, Bool.false_and]
      exact wpAny_pure h
    · exact wpAny_pure h
  unfold letOwnedTupleGo
  split
  · exact key
  · exact key
  · exact wpAny_pure h

theorem IT.list {b : Bool} {e : Expr} {xs : List PyData} (hh : A.handled = none) (h : EV w A env G b e (.list xs)) : IT w A env G e xs := by
  intro s E Q g hQ
  refine ev_go (h s E g) fun v s₁ as r k₁ => ?_
  refine rdsL r fun a vs n _ _ ho r => ?_
  have hl : s₁.heap.IsList a vs := ⟨_, ho, rfl, _, rfl⟩
  have hsz : vs.size = xs.length := by have := readsAll_length r; rwa [Array.length_toList] at this
  have hne : a ≠ s₁.heap.objs.size := Nat.ne_of_lt (Heap.lt_size ho)
  refine wpAny_pyIter_list hl (hQ s₁ _ s₁.heap.objs.size [s₁.heap.objs.size, a] [s₁.heap.objs.size] _ _ k₁ (keeps_push _ _) ⟨hsz ▸ Walks.list hh _ a hne vs, ?_, ?_, ?_, ?_, ?_⟩ ⟨⟨_, Heap.get?_push_size _ rfl, rfl, rfl⟩, hl.push _⟩ ?_)
  · intro b hb; simp at hb; subst hb; exact fresh_size _
  · intro i v hv d hd
    obtain ⟨v', bs, hv', rv⟩ := readsAll_get r hd
    have : v' = v := by
      have : vs.toList[i]? = some v := by simpa using hv
      rw [hv'] at this; cases this; rfl
    subst this
    exact ⟨bs, rv⟩
  · intro i h b st hb o e
    simp at hb; subst hb
    obtain ⟨⟨o', ho', hc', hd'⟩, _⟩ := st
    rw [ho'] at e; cases e
    exact tabby_it hc' hd'
  · intro i h b st hb o vs n e
    simp at hb; subst hb
    obtain ⟨⟨o', ho', _, hd'⟩, _⟩ := st
    rw [ho'] at e; cases e
    rw [hd']; nofun
  · intro i target v s E Q st hq
    obtain ⟨⟨o', ho', hc', hd'⟩, _⟩ := st
    exact letOwned_off ho' hc' (by decide) hq
  · intro b hb
    show b < (s₁.heap.push _).objs.size
    rw [Heap.size_push]
    simp at hb
    rcases hb with rfl | rfl
    · exact Nat.lt_succ_self _
    · exact Nat.lt_succ_of_lt (Heap.lt_size ho)
theorem IT.range1 (hm : Mono G) {b : Bool} {x : Str} {e : Expr} {p pos : Pos} {n : Nat} (hh : A.handled = none) (hn : NV env G x (.type "range")) (he : EV w A env G b e (.int n)) (hb : n < 2 ^ 62)
    (hs : autoParam (starEach [e] env = (false, eval e env) :: starEach [] env) byRfl) :
    IT w A env G (.Call (.Name x p) [e] [] pos) ((List.range n).map fun i : Nat => PyData.int (i : Int)) := by
  intro s E Q g hQ
  refine wpAny_Call_Name_kw (hn _ _ _ _ _ _ g ?_)
  have ha := EVs.cons (pos := pos) hm he .nil hs s E g
  rw [hs] at ha ⊢
  refine callWith_of (P := G) rfl (KPr.type _) (evalArgs_plain (evs_go ha fun vs s₁ as ra k₁ => ?_))
  refine rds1 ra fun x1z b1z r => ?_
  first | refine rdsI r fun _ => ?_ | refine rdsS r fun _ => ?_ | refine rdsB r ?_ | refine rdsN r ?_
  refine ⟨hm _ _ (kf_of k₁) g, call_range_1 (wpAny_pyIter_range (IsRange.new ..) (small_one (by omega) (by omega) (by omega) (by omega)) ?_)⟩
  dsimp only
  generalize hH : s₁.heap.push { cls := .type "range", data := .fields #[.int 0 s₁.toks, .int n _, .int 1 (s₁.toks + 1)] } = H
  have hkeep : Keeps s₁ { s₁ with heap := H, toks := s₁.toks + 1 + 1 } := ⟨H, _, rfl, fun b o e => by rw [← hH]; exact Heap.get?_push_of_some _ e⟩
  refine hQ { s₁ with heap := H, toks := s₁.toks + 1 + 1 } _ H.objs.size [H.objs.size] [H.objs.size] _ _ (keeps_trans k₁ hkeep) (keeps_push _ _)
    ⟨(by simp : ((List.range n).map fun i : Nat => PyData.int (i : Int)).length = n).symm ▸ Walks.range hh _ 0 1 n, ?_, ?_, ?_, ?_, ?_⟩ ?_ ?_
  · intro b hb; simp at hb; subst hb; exact fresh_size _
  · rintro i v ⟨t, rfl⟩ d hd
    have hlt : i < n := by have := (List.getElem?_eq_some_iff.mp hd).1; simpa using this
    have : d = .int i := by simpa [hlt] using hd.symm
    subst this
    exact ⟨[], by simpa using Rds.int (h := H) (i : Int) t⟩
  · intro i h b st hb o e
    simp at hb; subst hb
    have st : IsRangeIter h _ _ _ _ := st
    rw [st] at e; cases e
    rfl
  · intro i h b st hb o vs n e
    simp at hb; subst hb
    have st : IsRangeIter h _ _ _ _ := st
    rw [st] at e; cases e
    nofun
  · intro i target v s E Q st hq
    exact letOwned_off (o := _) st rfl (by decide) hq
  · have e : Builtin.Range.rangeSize 0 (n : Int) 1 = n := by rw [rangeSize_one]; split <;> omega
    show IsRangeIter (H.push _) H.objs.size _ _ _
    rw [e]
    simpa using Heap.get?_push_size H (o := { cls := .type "range_iterator", data := .fields #[rawInt 0, rawInt n, rawInt 1] }) rfl
  · intro b hb
    simp at hb; subst hb
    show H.objs.size < (H.push _).objs.size
    rw [Heap.size_push]; exact Nat.lt_succ_self _
end
end Mine
set_option maxRecDepth 100000
set_option linter.all false
namespace Mine
open PySem PySem.Spec PySem.Calls PyProof.Rows PySem.W

/- a bound of a slice -/
noncomputable def OE (w : World) (A : Around) (env : Env) (G : Heap → Prop) (e : Option Expr) (k : Option Int) : Prop :=
  ∀ (s : Shared) (E : Value → Shared → Prop), G s.heap → wpAny (model thePr w) A (evalPart e env) (fun v s' => IsPart v k ∧ Keeps s s') E s
noncomputable def pickD (ds : List PyData) (lo hi st : Option Int) : List PyData := (sliceRange (sliceBounds lo hi st ds.length).1 (sliceBounds lo hi st ds.length).2.1 (sliceBounds lo hi st ds.length).2.2).filterMap (ds[·]?)
section
variable {w : World} {A : Around} {env : Env} {G : Heap → Prop}
theorem wp_and {α : Type} {c : Sem α} {P R Q : α → Shared → Prop} {E : Value → Shared → Prop} {s : Shared} {M : Model} (h : wpAny M A c (fun v s' => P v s' ∧ R v s') E s) (k : ∀ v s', P v s' → R v s' → Q v s') : wpAny M A c Q E s :=
  wpAny_mono h (fun v s' x => k v s' x.1 x.2) fun _ _ x => x
theorem OE.none : OE w A env G none none := fun s E _ => wpAny_pure ⟨.none, keeps_refl _⟩
theorem OE.some {f : Bool} {e : Expr} {k : Int} (h : EV w A env G f e (.int k)) : OE w A env G (some e) (some k) := fun s E g =>
  ev_go (h s E g) fun v s' as r k => rdsI (C := fun v => IsPart v _ ∧ Keeps s s') r fun _ => ⟨.int _ _, k⟩

theorem rdsAll_pick {h : Heap} {vs : List Value} {ds : List PyData} {as : List Addr} (r : RdsAll h vs ds as) (f : flatAll ds = true) (idx : List Nat) : RdsAll h (idx.filterMap (vs[·]?)) (idx.filterMap (ds[·]?)) [] := by
  induction idx with
  | nil => exact .nil
  | cons i idx ih =>
    rw [List.filterMap_cons, List.filterMap_cons]
    cases hd : ds[i]? with
    | none =>
      rw [List.getElem?_eq_none (readsAll_length r ▸ List.getElem?_eq_none_iff.mp hd)]; exact ih
    | some d =>
      obtain ⟨v, bs, hv, rv⟩ := readsAll_get r hd
      rw [hv]
      exact .cons (as := []) (bs := []) (rds_flat rv (flatAll_iff.mp f d (List.mem_of_getElem? hd)) ▸ rv) ih

theorem EV.slice (hm : Mono G) {f : Bool} {x : Expr} {l u st : Option Expr} {p pos : Pos} {ds : List PyData} {lo hi step : Option Int} (hx : EV w A env G f x (.list ds)) (hl : OE w A env G l lo) (hu : OE w A env G u hi) (hst : OE w A env G st step)
    (h0 : step ≠ some 0) (hf : flatAll ds = true) (hsz : ds.length ≤ sizeLine) : EV w A env G true (.Subscript x (.Slice l u st p) pos) (.list (pickD ds lo hi step)) := by
  intro s E g
  refine Subscript_ (ev_go (hx s E g) fun o s₁ as ra k₁ => ?_)
  refine wpAny_Slice (wpAny_mono (hl s₁ E (hm _ _ (kf_of k₁) g)) (fun vl s₂ h₂ => ?_) fun _ _ x => x)
  obtain ⟨pl, k₂⟩ := h₂
  refine wpAny_mono (hu s₂ E (hm _ _ (kf_of (keeps_trans k₁ k₂)) g)) (fun vu s₃ h₃ => ?_) fun _ _ x => x
  obtain ⟨pu, k₃⟩ := h₃
  refine wpAny_mono (hst s₃ E (hm _ _ (kf_of (keeps_trans (keeps_trans k₁ k₂) k₃)) g)) (fun vs s₄ h₄ => ?_) fun _ _ x => x
  obtain ⟨ps, k₄⟩ := h₄
  have ra := rds_kp (kp_of (keeps_trans (keeps_trans k₂ k₃) k₄)) ra
  refine rdsL ra fun a items n _ _ ho r => ?_
  have hsize : items.size = ds.length := by have := readsAll_length r; rwa [Array.length_toList] at this
  have hl' : s₄.heap.IsList a items := ⟨_, ho, rfl, _, rfl⟩
  have hl₅ := hl'.push { cls := .type "slice", data := .fields #[vl, vu, vs] }
  refine tail_any (ops := match st with | Option.none => [.ref s₄.heap.objs.size, .ref a] | Option.some _ => [.ref a, .ref s₄.heap.objs.size]) (T := "list")
    (Heap.IsList.typeIs (s := { s₄ with heap := s₄.heap.push { cls := .type "slice", data := .fields #[vl, vu, vs] } }) hl₅) slot_list_getitem.lookup
    (wpAny_getItem_list_slice hl₅ (Heap.IsSliceOf.new ..) pl pu ps h0 ?_ (by rw [hsize]; exact hsz)) (by cases st <;> rfl)
  dsimp only
  have hP : (slicePick items lo hi step).toList = (sliceRange (sliceBounds lo hi step ds.length).1 (sliceBounds lo hi step ds.length).2.1 (sliceBounds lo hi step ds.length).2.2).filterMap (items.toList[·]?) := by
    unfold slicePick; rw [hsize]; simp
  generalize slicePick items lo hi step = P at hP ⊢
  generalize hH : s₄.heap.push { cls := .type "slice", data := .fields #[vl, vu, vs] } = H
  have kH : ∀ b o, s₄.heap.get? b = some o → H.get? b = some o := fun b o e => by rw [← hH]; exact Heap.get?_push_of_some _ e
  have kall : Keeps s { s₄ with heap := H.push { cls := .type "list", data := .seq P } } := by
    refine keeps_trans (keeps_trans (keeps_trans (keeps_trans k₁ k₂) k₃) k₄) ⟨_, s₄.toks, rfl, fun b o e => Heap.get?_push_of_some _ (kH b o e)⟩
  refine ⟨⟨[H.objs.size], .list (vs := P) (n := 0) (Heap.get?_push_size _ rfl) ?_, fun _ q hq => ?_⟩, kall⟩
  · have := rdsAll_pick (rdsAll_kp (.of_keep fun b o e => Heap.get?_push_of_some { cls := .type "list", data := .seq P } (kH b o e)) r) hf (sliceRange (sliceBounds lo hi step ds.length).1 (sliceBounds lo hi step ds.length).2.1 (sliceBounds lo hi step ds.length).2.2)
    unfold pickD
    rw [hP]
    exact this
  · simp at hq; subst hq
    refine none_of_keeps (keeps_trans (keeps_trans (keeps_trans k₁ k₂) k₃) k₄) ?_
    cases e : s₄.heap.get? H.objs.size with
    | none => rfl
    | some o => exact absurd (Heap.lt_size (kH _ _ e)) (Nat.lt_irrefl _)

theorem pickD_plain (ds : List PyData) (lo hi : Option Int) : pickD ds lo hi none = (ds.drop (lo.elim 0 (clipAt ds.length))).take (hi.elim ds.length (clipAt ds.length) - lo.elim 0 (clipAt ds.length)) := by
  unfold pickD
  rw [sliceBounds_plain, sliceRange_one]
  have := pick_run ds.toArray (lo.elim 0 (clipAt ds.length)) (hi.elim ds.length (clipAt ds.length) - lo.elim 0 (clipAt ds.length))
  simpa using this
theorem pickD_to (ds : List PyData) (k : Int) (hk : 0 ≤ k) : pickD ds none (some k) none = ds.take k.toNat := by
  rw [pickD_plain]
  obtain ⟨n, rfl⟩ := Int.eq_ofNat_of_zero_le hk
  show (ds.drop 0).take (clipAt ds.length (n : Int) - 0) = _
  rw [clipAt_nat]
  simp [List.take_eq_take_iff]
theorem pickD_from (ds : List PyData) (k : Int) (hk : 0 ≤ k) : pickD ds (some k) none none = ds.drop k.toNat := by
  rw [pickD_plain]
  obtain ⟨n, rfl⟩ := Int.eq_ofNat_of_zero_le hk
  show (ds.drop (clipAt ds.length (n : Int))).take (ds.length - clipAt ds.length (n : Int)) = _
  rw [clipAt_nat]
  by_cases h : n ≤ ds.length
  · rw [Nat.min_eq_left h, List.take_of_length_le (by simp)]; simp
  · rw [Nat.min_eq_right (by omega)]
    simp [List.drop_of_length_le (show ds.length ≤ n by omega)]

theorem rdsAll_append {h : Heap} {vs ws : List Value} {ds es : List PyData} {as bs : List Addr} (r : RdsAll h vs ds as) (y : RdsAll h ws es bs) : RdsAll h (vs ++ ws) (ds ++ es) (as ++ bs) :=
  RdsAll.ind (C := fun vs ds as => RdsAll h (vs ++ ws) (ds ++ es) (as ++ bs)) y (fun _ _ _ _ _ _ r _ q => by rw [List.append_assoc]; exact .cons r q) r
theorem EV.addl (hm : Mono G) {f g : Bool} {l r : Expr} {pos : Pos} {xs ys : List PyData} (hfx : flatAll xs = true) (hfy : flatAll ys = true) (hz : xs.length + ys.length ≤ sizeLine) (hl : EV w A env G f l (.list xs)) (hr : EV w A env G g r (.list ys)) :
    EV w A env G true (.BinOp l .Add r pos) (.list (xs ++ ys)) :=
  .bin hm hl hr fun s E x y as bs _ rx ry => by
    refine rdsL rx fun a vs n _ _ ho r => ?_
    refine rdsL ry fun b ws m _ _ ho2 r2 => ?_
    have h1 : vs.size = xs.length := by have := readsAll_length r; rwa [Array.length_toList] at this
    have h2 : ws.size = ys.length := by have := readsAll_length r2; rwa [Array.length_toList] at this
    refine concat_meets ⟨_, ho, rfl⟩ ⟨_, ho2, rfl⟩ noFill_list_add seq_list_add PySem.F.slot_list_add PySem.F.entry_list_add (PySem.F.args_list_add_2 _ _) (list_addW a b vs ws n m none none #[] #[] (by omega)) ⟨ho, ho2, ?_⟩
    refine ⟨⟨[s.heap.objs.size], .list (vs := vs ++ ws) (n := 0) (Heap.get?_push_size _ rfl) ?_, fun q hq => ?_⟩, keeps_push _ _⟩
    · rw [Array.toList_append]
      have e1 := rdsAll_flat r hfx
      have e2 := rdsAll_flat r2 hfy
      subst e1 e2
      exact rdsAll_append (rdsAll_kp (kp_of (keeps_push s _)) r) (rdsAll_kp (kp_of (keeps_push s _)) r2)
    · simp at hq; subst hq; exact fresh_size _

/-! ## sum, max, index, join -/
theorem intsAre_of {h : Heap} {vs : List Value} {ns : List Int} {as : List Addr} (r : RdsAll h vs (ns.map .int) as) : IntsAre vs ns := by
  induction ns generalizing vs as with
  | nil => exact rds0 r .nil
  | cons n ns ih => exact rdsC r fun _ _ _ _ _ r r' => rdsI r fun _ => .cons _ _ (ih r')
theorem strsAre_of {h : Heap} {vs : List Value} {ns : List Str} {as : List Addr} (r : RdsAll h vs (ns.map .str) as) : StrsAre vs ns := by
  induction ns generalizing vs as with
  | nil => exact rds0 r .nil
  | cons n ns ih => exact rdsC r fun _ _ _ _ _ r r' => rdsS r fun _ => .cons _ _ (ih r')
theorem call_sum {s : Shared} {E : Value → Shared → Prop} {a : Addr} {vs : Array Value} {n : Nat} {ns : List Int} {as : List Addr} (hh : A.handled = none) (ho : s.heap.get? a = some (listO vs n)) (r : RdsAll s.heap vs.toList (ns.map .int) as) {Q : Value → Shared → Prop}
    (hQ : ∀ s' t, Keeps s s' → Q (.int ns.sum t) s') : wpAny (model thePr w) A (PySem.call (.builtin "sum") [.ref a]) Q E s := by
  have hl : s.heap.IsList a vs := ⟨_, ho, rfl, _, rfl⟩
  have hsz : vs.size = ns.length := by have := readsAll_length r; rwa [Array.length_toList, List.length_map] at this
  have hne : a ≠ s.heap.objs.size := Nat.ne_of_lt (Heap.lt_size ho)
  refine call_sum_walkAnyS (wpAny_pyIter_list hl ?_)
  refine ⟨s.heap.objs.size, [s.heap.objs.size, a], [s.heap.objs.size], _, _, _, _, fun i => ns.getD i 0, rfl, (Walks.list (A := A.in1) hh _ a hne vs).toS, ⟨⟨_, Heap.get?_push_size _ rfl, rfl, rfl⟩, hl.push _⟩, ?_, ?_, ?_⟩
  · intro b hb
    show b < (s.heap.push _).objs.size
    rw [Heap.size_push]
    simp at hb
    rcases hb with rfl | rfl
    · exact Nat.lt_succ_self _
    · exact Nat.lt_succ_of_lt (Heap.lt_size ho)
  · intro i v hv
    have hlt : i < ns.length := by rw [← hsz]; exact (Array.getElem?_eq_some_iff.mp hv).1
    obtain ⟨v', bs, hv', rv⟩ := readsAll_get r (i := i) (d := .int ns[i]) (by simp [hlt])
    have : v' = v := by
      have : vs.toList[i]? = some v := by simpa using hv
      rw [hv'] at this; cases this; rfl
    subst this
    first | refine rdsI rv fun _ => ?_ | refine rdsS rv fun _ => ?_ | refine rdsB rv ?_ | refine rdsN rv ?_
    exact ⟨_, by simp [hlt]; rfl⟩
  · intro s' t' hm
    rw [preSum_getD, hsz, List.take_length]
    refine hQ s' t' ⟨s'.heap, s'.toks, ?_, fun b o e => hm.heap b o ?_ (Heap.get?_push_of_some _ e)⟩
    · have h1 := hm.gens; have h2 := hm.drawn; have h3 := hm.os
      obtain ⟨hp, g, d, t, os⟩ := s'
      simp at h1 h2 h3 ⊢
      exact ⟨h1, h2, h3⟩
    · simp; exact Nat.ne_of_lt (Heap.lt_size e)
theorem EV.sum (hm : Mono G) (hh : A.handled = none) {b : Bool} {x : Str} {e : Expr} {p pos : Pos} {ns : List Int} (hn : NV env G x (.builtin "sum")) (he : EV w A env G b e (.list (ns.map .int)))
    (hs : autoParam (starEach [e] env = (false, eval e env) :: starEach [] env) byRfl) :
    EV w A env G true (.Call (.Name x p) [e] [] pos) (.int ns.sum) :=
  .call hm hn .builtin (.cons hm he .nil hs) (fun s E vs as g r => by
    refine rds1 r fun x1z b1z r => ?_
    refine rdsL r fun a1z i1z n1z _ _ ho r => ?_
    exact call_sum hh ho r fun s' t k => ⟨⟨[], .int _ _, fun _ h => nomatch h⟩, k⟩) hs
theorem EV.max2 (hm : Mono G) (hh : A.handled = none) {b : Bool} {x : Str} {e f : Expr} {p pos : Pos} {i j : Int} (hn : NV env G x (.builtin "max")) (he : EV w A env G b e (.int i)) (hf : EV w A env G b f (.int j))
    (hs : autoParam (starEach [e, f] env = (false, eval e env) :: starEach [f] env) byRfl) (hs' : autoParam (starEach [f] env = (false, eval f env) :: starEach [] env) byRfl) :
    EV w A env G true (.Call (.Name x p) [e, f] [] pos) (.int (max i j)) :=
  .call hm hn .builtin (.cons hm he (.cons hm hf .nil hs') hs) (fun s E vs as g r => by
    refine rds2 r fun x1z x2z b1z b2z r r₂ => ?_
    first | refine rdsI r fun _ => ?_ | refine rdsS r fun _ => ?_ | refine rdsB r ?_ | refine rdsN r ?_
    first | refine rdsI r₂ fun _ => ?_ | refine rdsS r₂ fun _ => ?_ | refine rdsB r₂ ?_ | refine rdsN r₂ ?_
    refine max_two_ints hh fun h' tk k => ?_
    refine ⟨⟨[], ?_, fun _ h => nomatch h⟩, ⟨h', tk, rfl, k⟩⟩
    split
    · rw [Int.max_eq_right (by omega)]; exact .int _ _
    · rw [Int.max_eq_left (by omega)]; exact .int _ _) hs (by rw [hs']; rfl)

/- a method of a plain list -/
theorem EV.methL (hm : Mono G) {b f : Bool} {o e : Expr} {es : List Expr} {name : Str} {id : String} {apos pos : Pos} {xs ds : List PyData} {c : PyData} {pl : Sem Bool} (slot : Slot "list" name id) (hty : typeOf (.builtin id) = pure (.type "method_descriptor"))
    (ho : EV w A env G f o (.list xs)) (hargs : EVs w A env G b pos (e :: es) ds)
    (hc : ∀ (s : Shared) (E : Value → Shared → Prop) (a : Addr) (items : Array Value) (n : Nat) (qs : List Addr) (vs : List Value) (as : List Addr), G s.heap → s.heap.get? a = some (listO items n) → RdsAll s.heap items.toList xs qs → RdsAll s.heap vs ds as →
      wpAny (model thePr w) A (PySem.call (.builtin id) (.ref a :: vs)) (fun v s' => (∃ cs, Rds s'.heap v c cs ∧ ∀ a ∈ cs, s.heap.get? a = none) ∧ Keeps s s') E s)
    (he : autoParam (eval (.Call (.Attribute o name apos) (e :: es) [] pos) env = (do
      let ov ← eval o env
      standAt apos.atName
      let (f, first) ← holding [ov] (getMethod ov name pl)
      callWith pos f first (backTo pos (starEach (e :: es) env)) [])) byRfl)
    (hs : autoParam (starEach (e :: es) env = (false, eval e env) :: starEach es env) byRfl) (hplain : autoParam ((backTo pos (starEach es env)).any (·.1) = false) byRfl) :
    EV w A env G true (.Call (.Attribute o name apos) (e :: es) [] pos) c := by
  intro s E g
  refine MethodCall_ (pl := pl) (ev_go (ho s E g) fun ov s₁ qs ro k₁ => ?_) he
  cases ro with
  | @list a items n _ qs ho r =>
  have g₁ := hm _ _ (kf_of k₁) g
  refine getMethod_list_of slot hty ⟨_, ho, rfl, _, rfl⟩ ⟨_, ho, rfl⟩ ?_
  refine callWith_method1 (evs_go (hargs s₁ E g₁) fun vs s₂ as ra k₂ => ?_) hs hplain
  refine wpAny_mono (hc s₂ E a items n qs vs as (hm _ _ (kf_of k₂) g₁) (keeps_get k₂ ho) (rdsAll_kp (kp_of k₂) r) ra) (fun v s₃ h₃ => ?_) fun _ _ x => x
  obtain ⟨⟨cs, rc, nc⟩, k₃⟩ := h₃
  exact ⟨⟨cs, rc, fun _ a ha => none_of_keeps (keeps_trans k₁ k₂) (nc a ha)⟩, keeps_trans (keeps_trans k₁ k₂) k₃⟩
/- a method of a str -/
theorem EV.methS (hm : Mono G) {b f : Bool} {o e : Expr} {es : List Expr} {name : Str} {id : String} {apos pos : Pos} {x : Str} {ds : List PyData} {c : PyData} {pl : Sem Bool} (slot : Slot "str" name id) (hty : typeOf (.builtin id) = pure (.type "method_descriptor"))
    (ho : EV w A env G f o (.str x)) (hargs : EVs w A env G b pos (e :: es) ds)
    (hc : ∀ (s : Shared) (E : Value → Shared → Prop) (t : Tok) (vs : List Value) (as : List Addr), G s.heap → RdsAll s.heap vs ds as →
      wpAny (model thePr w) A (PySem.call (.builtin id) (.str x t :: vs)) (fun v s' => (∃ cs, Rds s'.heap v c cs ∧ ∀ a ∈ cs, s.heap.get? a = none) ∧ Keeps s s') E s)
    (he : autoParam (eval (.Call (.Attribute o name apos) (e :: es) [] pos) env = (do
      let ov ← eval o env
      standAt apos.atName
      let (f, first) ← holding [ov] (getMethod ov name pl)
      callWith pos f first (backTo pos (starEach (e :: es) env)) [])) byRfl)
    (hs : autoParam (starEach (e :: es) env = (false, eval e env) :: starEach es env) byRfl) (hplain : autoParam ((backTo pos (starEach es env)).any (·.1) = false) byRfl) :
    EV w A env G true (.Call (.Attribute o name apos) (e :: es) [] pos) c := by
  intro s E g
  refine MethodCall_ (pl := pl) (ev_go (ho s E g) fun ov s₁ qs ro k₁ => ?_) he
  cases ro with
  | str _ t =>
  have g₁ := hm _ _ (kf_of k₁) g
  refine getMethod_builtin (typeIs_str _ _ _) PySem.F.plainAttrs_str slot hty (fun a e => by cases e) ?_
  refine callWith_method1 (evs_go (hargs s₁ E g₁) fun vs s₂ as ra k₂ => ?_) hs hplain
  refine wpAny_mono (hc s₂ E t vs as (hm _ _ (kf_of k₂) g₁) ra) (fun v s₃ h₃ => ?_) fun _ _ x => x
  obtain ⟨⟨cs, rc, nc⟩, k₃⟩ := h₃
  exact ⟨⟨cs, rc, fun _ a ha => none_of_keeps (keeps_trans k₁ k₂) (nc a ha)⟩, keeps_trans (keeps_trans k₁ k₂) k₃⟩

theorem EV.index (hm : Mono G) {f b : Bool} {o e : Expr} {apos pos : Pos} {ns : List Int} {k : Int} {pl : Sem Bool} (ho : EV w A env G f o (.list (ns.map .int))) (hk' : EV w A env G b e (.int k)) (hk : k ∈ ns) (hlen : ns.length < 2 ^ 62)
    (he : autoParam (eval (.Call (.Attribute o (Str.ofString "index") apos) [e] [] pos) env = (do
      let ov ← eval o env
      standAt apos.atName
      let (f, first) ← holding [ov] (getMethod ov (Str.ofString "index") pl)
      callWith pos f first (backTo pos (starEach [e] env)) [])) byRfl)
    (hs : autoParam (starEach [e] env = (false, eval e env) :: starEach [] env) byRfl) :
    EV w A env G true (.Call (.Attribute o (Str.ofString "index") apos) [e] [] pos) (.int (ns.idxOf k : Nat)) :=
  .methL hm (pl := pl) PySem.F.slot_list_index PySem.F.type_list_index ho (.cons hm hk' .nil hs) (fun s E a items n qs vs as g ha r rv => by
    refine rds1 rv fun x1z b1z r1 => ?_
    cases r1 with
    | int _ t =>
    have hi := intsAre_of r
    obtain ⟨vs⟩ := items
    have hlen' := hi.length
    have hj : ns.idxOf k < ns.length := List.idxOf_lt_length_iff.mpr hk
    refine call_meets PySem.F.slot_list_index ⟨_, ha, rfl⟩ PySem.F.entry_list_index (PySem.F.args_list_index_2 _ _)
      (SeqAt.list_indexAt a vs.toArray n none #[] (.int k t) (isInt k) (ns.idxOf k) (by simpa [hlen'] using hj) (by omega) ?_ ?_) ⟨ha, fun y hy => (eq_isInt k t hi y (by simpa using hy)).at _ _, ⟨⟨[], .int _ _, fun _ h => nomatch h⟩, keeps_toks _ _⟩⟩
    · show isInt k vs[ns.idxOf k] = true
      rw [isInt_at k hi _ (by simpa [hlen'] using hj) hj]
      simpa using List.getElem_idxOf hj
    · intro j hjs hlt
      show isInt k vs[j] = false
      have hjs' : j < vs.length := by simpa using hjs
      rw [isInt_at k hi j hjs' (by omega)]
      exact ne_of_lt_idxOf hlt _) he hs
theorem EV.join (hm : Mono G) {f b : Bool} {o e : Expr} {apos pos : Pos} {x : Str} {ys : List Str} {pl : Sem Bool} (ho : EV w A env G f o (.str x)) (hk' : EV w A env G b e (.list (ys.map .str))) (hok : (ys.map (·.length)).sum + ys.length * x.length ≤ 16777216)
    (he : autoParam (eval (.Call (.Attribute o (Str.ofString "join") apos) [e] [] pos) env = (do
      let ov ← eval o env
      standAt apos.atName
      let (f, first) ← holding [ov] (getMethod ov (Str.ofString "join") pl)
      callWith pos f first (backTo pos (starEach [e] env)) [])) byRfl)
    (hs : autoParam (starEach [e] env = (false, eval e env) :: starEach [] env) byRfl) :
    EV w A env G true (.Call (.Attribute o (Str.ofString "join") apos) [e] [] pos) (.str (Txt.join x ys)) :=
  .methS hm (pl := pl) PySem.F.slot_str_join PySem.F.type_str_join ho (.cons hm hk' .nil hs) (fun s E t vs as g rv => by
    refine rds1 rv fun x1z b1z r1 => ?_
    refine rdsL r1 fun a1z i1z n1z _ _ ho r => ?_
    exact join_list ⟨_, ho, rfl, _, rfl⟩ (strsAre_of r) hok fun t' k => ⟨⟨[], .str _ _, fun _ h => nomatch h⟩, keeps_toks _ _⟩) he hs
theorem EV.strip (hm : Mono G) {f b : Bool} {o e : Expr} {apos pos : Pos} {x y : Str} {pl : Sem Bool} (ho : EV w A env G f o (.str x)) (hk' : EV w A env G b e (.str y)) (hok : x.length ≤ sizeLine)
    (he : autoParam (eval (.Call (.Attribute o (Str.ofString "strip") apos) [e] [] pos) env = (do
      let ov ← eval o env
      standAt apos.atName
      let (f, first) ← holding [ov] (getMethod ov (Str.ofString "strip") pl)
      callWith pos f first (backTo pos (starEach [e] env)) [])) byRfl)
    (hs : autoParam (starEach [e] env = (false, eval e env) :: starEach [] env) byRfl) :
    EV w A env G true (.Call (.Attribute o (Str.ofString "strip") apos) [e] [] pos) (.str (Txt.stripChars x y)) :=
  .methS hm (pl := pl) PySem.F.slot_str_strip PySem.F.type_str_strip ho (.cons hm hk' .nil hs) (fun s E t vs as g rv => by
    refine rds1 rv fun x1z b1z r1 => ?_
    first | refine rdsI r1 fun _ => ?_ | refine rdsS r1 fun _ => ?_ | refine rdsB r1 ?_ | refine rdsN r1 ?_
    exact SC.stripChars (fun t' k => ⟨⟨[], .str _ _, fun _ h => nomatch h⟩, keeps_toks _ _⟩) hok) he hs
end
end Mine
set_option maxRecDepth 100000
set_option linter.all false
namespace Mine
open PySem PySem.Spec PySem.Calls PyProof.Rows PySem.W

noncomputable def glob : List (Str × Value) := [("insort_right", .ref 47), ("bisect_right", .ref 56), ("insort_left", .ref 65), ("bisect_left", .ref 74), ("_Accumulator", .ref 154), ("_twin_re_1", .ref 163), ("_twin_re_2", .ref 168),
  ("quotedata", .ref 175), ("_law_first", .ref 182), ("_law_sent", .ref 189), ("_law_refused", .ref 196)]
noncomputable def blt : List (Str × Value) := [("len", .builtin "len"), ("sum", .builtin "sum"), ("enumerate", .type "enumerate"), ("range", .type "range"), ("max", .builtin "max"), ("min", .builtin "min"), ("str", .type "str"), ("list", .type "list"), ("ValueError", .type "ValueError"), ("super", .type "super")]

noncomputable def CdAt (h : Heap) (c : Addr) (q : Str) : Prop := ∃ o vs t, h.get? c = some o ∧ o.cls = .type "code" ∧ o.data = .fields vs ∧ vs[1]? = some (.str q t)
theorem CdAt.kp {h h' : Heap} {c : Addr} {q : Str} (k : Kp h h') (x : CdAt h c q) : CdAt h' c q := by
  obtain ⟨o, vs, t, ho, hc, r⟩ := x
  exact ⟨o, vs, t, k _ _ ho (tabby_cls hc), hc, r⟩
theorem CdAt.rec' {h : Heap} {c : Addr} {q : Str} (x : CdAt h c q) : h.CodeRec (.ref c) q := by
  obtain ⟨o, vs, t, ho, hc, hd, hv⟩ := x
  exact ⟨c, o, vs, t, rfl, ho, hd, hv⟩

noncomputable abbrev fdOf (nm : Str) (st : Stmt) (dV kV pm : Value) (c : Addr) : FuncData :=
  { name := nm, qualname := nm, params := dArgs st, body := .stmts (dBody st), scope := dScope st, globals := mainGlobals, closure := [], defaults := dV, kwdefaults := kV, doc := .none, pyModule := pm, annotations := none, code := .ref c, closureTuple := .none, builtins := builtinsNs }
noncomputable def FnAt (h : Heap) (a : Addr) (nm : Str) (st : Stmt) (dV kV : Value) (c : Addr) : Prop := (∃ o pm, h.get? a = some o ∧ o.data = .func (fdOf nm st dV kV pm c)) ∧ CdAt h c nm
theorem FnAt.kp {h h' : Heap} {a : Addr} {nm : Str} {st : Stmt} {dV kV : Value} {c : Addr} (k : Kp h h') (x : FnAt h a nm st dV kV c) : FnAt h' a nm st dV kV c := by
  obtain ⟨⟨o, pm, ho, hd⟩, q⟩ := x
  exact ⟨⟨o, pm, k _ _ ho (tabby_func hd), hd⟩, q.kp k⟩

structure Base (h : Heap) : Prop where
  lim : h.NoLimit
  gl : ∃ mg, h.Ns mainGlobals mg ∧ (∀ x v, glob.lookup x = some v → mg x = some v) ∧ (∀ x v, blt.lookup x = some v → mg x = none) ∧ (∃ t, mg "CRLF" = some (.str "\r\n" t)) ∧ (∃ t, mg "EMPTYSTRING" = some (.str "" t))
  bl : ∃ mb, h.Ns builtinsNs mb ∧ (∀ x v, blt.lookup x = some v → mb x = some v)
  insr : FnAt h 47 "insort_right" (topSt 3) (.ref 39) (.ref 40) 46
  bisr : FnAt h 56 "bisect_right" (topSt 4) (.ref 48) (.ref 49) 55
  insl : FnAt h 65 "insort_left" (topSt 5) (.ref 57) (.ref 58) 64
  bisl : FnAt h 74 "bisect_left" (topSt 6) (.ref 66) (.ref 67) 73
  quot : FnAt h 175 "quotedata" (topSt 14) .none .none 174
  frst : FnAt h 182 "_law_first" (topSt 16) .none .none 181
  sent : FnAt h 189 "_law_sent" (topSt 17) .none .none 188
  rfsd : FnAt h 196 "_law_refused" (topSt 18) .none .none 195
  law : FnAt h 201 "law" (topSt 19) .none .none 200
  dfl : ∀ a, a = 39 ∨ a = 48 ∨ a = 57 ∨ a = 66 → ∃ t, h.get? a = some (tupO #[.int 0 t, .none] 0)
  kwd : ∀ a, a = 40 ∨ a = 49 ∨ a = 58 ∨ a = 67 → ∃ m, h.Ns a m ∧ m "key" = some .none

theorem Base.kp {h h' : Heap} (k : Kp h h') (B : Base h) : Base h' where
  lim := by obtain ⟨mc, n, e⟩ := B.lim; exact ⟨mc, ns_kp k n, e⟩
  gl := by obtain ⟨mg, n, r⟩ := B.gl; exact ⟨mg, ns_kp k n, r⟩
  bl := by obtain ⟨mg, n, r⟩ := B.bl; exact ⟨mg, ns_kp k n, r⟩
  insr := B.insr.kp k
  bisr := B.bisr.kp k
  insl := B.insl.kp k
  bisl := B.bisl.kp k
  quot := B.quot.kp k
  frst := B.frst.kp k
  sent := B.sent.kp k
  rfsd := B.rfsd.kp k
  law := B.law.kp k
  dfl := fun a ha => by obtain ⟨t, e⟩ := B.dfl a ha; exact ⟨t, k _ _ e rfl⟩
  kwd := fun a ha => by obtain ⟨m, n, e⟩ := B.kwd a ha; exact ⟨m, ns_kp k n, e⟩

section
variable {w : World} {A : Around} {env : Env} {G : Heap → Prop}
theorem NV.glob {x : Str} {v : Value} (hG : ∀ h, G h → Base h) (e : Mine.glob.lookup x = some v) (hx : env.kindOf x = some .globalImplicit) (hk : env.scope.kind = .function) (hg : env.globals = mainGlobals) (hd : (x == ("__debug__" : Str)) = false) : NV env G x v := by
  intro M A pos s E Q g q
  obtain ⟨mg, n, r, _⟩ := (hG _ g).gl
  exact Name_function_global hk hx (loadGlobal_global (mg := mg) (by rw [hg]; exact n) (r _ _ e) q) hd
theorem NV.built {x : Str} {v : Value} (hG : ∀ h, G h → Base h) (e : blt.lookup x = some v) (hx : env.kindOf x = some .globalImplicit) (hk : env.scope.kind = .function) (hg : env.globals = mainGlobals) (hb : env.builtins = builtinsNs) (hd : (x == ("__debug__" : Str)) = false) : NV env G x v := by
  intro M A pos s E Q g q
  obtain ⟨mg, n, _, r, _⟩ := (hG _ g).gl
  obtain ⟨mb, n', r'⟩ := (hG _ g).bl
  exact Name_function_global hk hx (loadGlobal_builtin (mg := mg) (mb := mb) (by rw [hg]; exact n) (r _ _ e) (by rw [hb]; exact n') (r' _ _ e) q) hd

/- the frame at L: names with data, names with values -/
noncomputable def FB (L : Addr) (bs : List (Str × PyData)) (vs : List (Str × Value)) (h : Heap) : Prop :=
  ∃ m, h.Ns L m ∧ (∀ x d, bs.lookup x = some d → ∃ v as, m x = some v ∧ Rds h v d as) ∧ (∀ x v, vs.lookup x = some v → m x = some v)
theorem FB.kp {L : Addr} {bs vs} {h h' : Heap} (k : Kp h h') (x : FB L bs vs h) : FB L bs vs h' := by
  obtain ⟨m, n, r, q⟩ := x
  exact ⟨m, ns_kp k n, fun x d e => by obtain ⟨v, as, e1, e2⟩ := r x d e; exact ⟨v, as, e1, rds_kp k e2⟩, q⟩
theorem FB.sub {L : Addr} {bs bs' : List (Str × PyData)} {vs vs' : List (Str × Value)} {h : Heap} (x : FB L bs vs h) (hb : ∀ p ∈ bs', bs.lookup p.1 = some p.2) (hv : ∀ p ∈ vs', vs.lookup p.1 = some p.2) : FB L bs' vs' h := by
  obtain ⟨m, n, r, q⟩ := x
  exact ⟨m, n, fun x d e => r x d (hb (x, d) (PySem.mem_of_lookup e)), fun x v e => q x v (hv (x, v) (PySem.mem_of_lookup e))⟩

/- in a call: all of h0 stands, the frame at L -/
noncomputable def GF (h0 : Heap) (L : Addr) (bs : List (Str × PyData)) (vs : List (Str × Value)) (h : Heap) : Prop := Kf h0 h ∧ FB L bs vs h
theorem mono_GF {h0 : Heap} {L : Addr} {bs vs} : Mono (GF h0 L bs vs) := fun h h' k x => ⟨x.1.trans k, x.2.kp (.of_keep k)⟩

theorem EV.loc {h0 : Heap} {L : Addr} {bs vs} {x : Str} {pos : Pos} {d : PyData} (e : bs.lookup x = some d) (hL : env.locals = L) (hk : env.scope.kind = .function) (hx : env.kindOf x = some .local) (hd : (x == ("__debug__" : Str)) = false) : EV w A env (GF h0 L bs vs) false (.Name x pos) d := by
  intro s E g
  obtain ⟨_, m, n, r, _⟩ := g
  obtain ⟨v, as, e1, e2⟩ := r x d e
  subst hL
  exact wpAny_Name (wpAny_loadName_local hk hx n e1 ⟨⟨as, e2, ff⟩, keeps_refl _⟩) hd
theorem NV.loc {h0 : Heap} {L : Addr} {bs vs} {x : Str} {v : Value} (e : vs.lookup x = some v) (hL : env.locals = L) (hk : env.scope.kind = .function) (hx : env.kindOf x = some .local) (hd : (x == ("__debug__" : Str)) = false) : NV env (GF h0 L bs vs) x v := by
  intro M A pos s E Q g q
  obtain ⟨_, m, n, _, r⟩ := g
  subst hL
  exact wpAny_Name (wpAny_loadName_local hk hx n (r _ _ e) q) hd

/- x = value, a name of the frame -/
theorem st_assign {h0 : Heap} {L : Addr} {bs vs} {x : Str} {p' pos : Pos} {value : Expr} {rest : List Stmt} {f : Bool} {d : PyData} {s : Shared} {E : Value → Shared → Prop} {Q : Flow → Shared → Prop} (g : GF h0 L bs vs s.heap) (h0L : h0.get? L = none)
    (hev : EV w A env (GF h0 L bs vs) f value d) (hL : env.locals = L) (hx : env.kindOf x = some .local) (hp : (env.scope.kind == .class || (env.scope.kind == .module && env.locals != env.globals)) = false) (hv : vs.lookup x = none)
    (hs : swapsWith value (some (.Name x p')) pos.line env = pure false)
    (next : ∀ h' tk, GF h0 L ((x, d) :: bs) vs h' → wpAny (model thePr w) A (execs rest env) Q E { s with heap := h', toks := tk }) :
    wpAny (model thePr w) A (execs (.Assign [.Name x p'] value pos :: rest) env) Q E s := by
  subst hL
  refine wpAny_execs_cons (wpAny_Assign_Name (ev_goK (hev s E g) fun v as h₁ tk₁ r k₁ => ?_) hs)
  obtain ⟨kf, m, n, rb, rv⟩ := mono_GF _ _ k₁ g
  refine wpAny_storeName_local hx n (fun h₂ n₂ s₂ => next h₂ _ ⟨fun b o e => s₂.extBut b o (by rintro rfl; rw [h0L] at e; cases e) (kf b o e), _, n₂, fun y dy e => ?_, fun y v' e => ?_⟩) hp
  · by_cases hy : y = x
    · subst hy
      simp at e; subst e
      exact ⟨v, as, by simp, rds_but n s₂.extBut r⟩
    · have hyx : (y == x) = false := by simpa using hy
      rw [List.lookup_cons, hyx] at e
      obtain ⟨v', as', e1, e2⟩ := rb y dy e
      exact ⟨v', as', by simp [hy, e1], rds_but n s₂.extBut e2⟩
  · have hy : y ≠ x := by rintro rfl; rw [hv] at e; cases e
    simp [hy, rv y v' e]
theorem st_ret {e : Expr} {pos : Pos} {rest : List Stmt} {f : Bool} {d : PyData} {s : Shared} {E : Value → Shared → Prop} {Q : Flow → Shared → Prop} (g : G s.heap) (hev : EV w A env G f e d)
    (next : ∀ v s' as, Rds s'.heap v d as → (f = true → ∀ a ∈ as, s.heap.get? a = none) → Keeps s s' → Q (.ret v) s') :
    wpAny (model thePr w) A (execs (.Return (some e) pos :: rest) env) Q E s := by
  refine wpAny_execs_cons (wpAny_Return_some (ev_goN (hev s E g) fun v s₁ as r nf k => ?_))
  exact next v s₁ as r nf k
theorem st_if {test : Expr} {body orelse rest : List Stmt} {pos : Pos} {b : Bool} {s : Shared} {E : Value → Shared → Prop} {Q : Flow → Shared → Prop} (g : G s.heap) (hm : Mono G) (ht : TV w A env G test b)
    (next : ∀ s', G s'.heap → Keeps s s' → wpAny (model thePr w) A (execs (if b then body else orelse) env) (fun f s'' => match f with | .next => wpAny (model thePr w) A (execs rest env) Q E s'' | f => Q f s'') E s') :
    wpAny (model thePr w) A (execs (.If test body orelse pos :: rest) env) Q E s := by
  refine wpAny_execs_cons (wpAny_If (wpAny_mono (ht s E g) (fun v s₁ h₁ => ?_) fun _ _ x => x))
  obtain ⟨rfl, k⟩ := h₁
  have := next s₁ (hm _ _ (kf_of k) g) k
  cases v <;> exact wpAny_mono this (fun f s' h => by cases f <;> exact h) fun _ _ x => x

/- a call of a def of the text -/
theorem callFn {a c : Addr} {nm : Str} {st : Stmt} {dV kV : Value} {args : List Value} {kw : List (Str × Value)} {binds : List (Str × Value)} {s : Shared} {E : Value → Shared → Prop} {Q : Value → Shared → Prop} (F : FnAt s.heap a nm st dV kV c) (lim : s.heap.NoLimit) (hroom : A.depth < recursionLimit)
    (hbind : ∀ pm, BindsTo s (fdOf nm st dV kV pm c) ⟨args, kw⟩ binds) (hcell : ∀ x ∈ (dScope st).names, x.2 ≠ .cell) (hloc : ∀ x ∈ binds, (dScope st).names.lookup x.1 = some .local)
    (body : ∀ pm h₀, h₀.Ns s.heap.objs.size (fun x => binds.reverse.lookup x) → Kf s.heap h₀ →
      wpAny (model thePr w) (A.deeper (callEnv (fdOf nm st dV kV pm c) s.heap.objs.size a)) (execs (dBody st) (callEnv (fdOf nm st dV kV pm c) s.heap.objs.size a)) (fun f s' => Q (match f with | .ret v => v | _ => .none) s') (fun _ _ => False) { s with heap := h₀, toks := s.toks + binds.length })
    (hco : autoParam ((dScope st).isCoroutine = false) byRfl) (hgen : autoParam ((dScope st).isGenerator = false) byRfl) (hk : autoParam ((dScope st).kind = .function) byRfl) :
    wpAny (model thePr w) A (PySem.call (.ref a) args kw) Q E s := by
  obtain ⟨⟨o, pm, ho, hd⟩, hc⟩ := F
  refine wpAny_call (codeAny_call_def hroom ho hd lim hc.rec' rfl (hbind pm) hcell hloc (fun h₀ n k => ?_) hco hgen hk)
  exact wpAny_mono (body pm h₀ n k) (fun _ _ x => x) fun _ _ x => x.elim

/- _law_first -/
theorem first_ok {s : Shared} {E : Value → Shared → Prop} {Q : Value → Shared → Prop} (hA : A.depth < recursionLimit) (B : Base s.heap) {v : Value} {d : PyData} {ds : List PyData} {as : List Addr} (r : Rds s.heap v (.tuple (d :: ds)) as)
    (hQ : ∀ v' s' cs, Rds s'.heap v' d cs → Keeps s s' → Q v' s') : wpAny (model thePr w) A (PySem.call (.ref 182) [v]) Q E s := by
  refine callFn (binds := [("one", v)]) B.frst B.lim hA (fun pm => .of_eq rfl) (by decide) (locs rfl) fun pm h₀ n k => ?_
  have g : GF s.heap s.heap.objs.size [("one", .tuple (d :: ds))] [] h₀ := ⟨k, _, n, fun x dx e => ?_, fun x v e => by simp at e⟩
  · refine st_ret g (EV.itemT (ds := d :: ds) (k := 0) mono_GF (by decide) (by decide) rfl (EV.loc rfl rfl rfl rfl rfl) EV.int) fun v' s' cs r' _ k' => hQ v' s' cs r' ?_
    exact keeps_trans ⟨h₀, _, rfl, k⟩ k'
  · have := PySem.mem_of_lookup e
    simp at this
    obtain ⟨rfl, rfl⟩ := this
    exact ⟨v, as, rfl, rds_kp (.of_keep k) r⟩
end
end Mine
set_option maxRecDepth 100000
set_option linter.all false
namespace Mine
open PySem PySem.Spec PySem.Calls PyProof.Rows PySem.W
open AutoSeq1 (wpAny_loadPart')


theorem rc_lt {prog : Program} {w : World} {A : Around} {E : Value → Shared → Prop} {s : Shared} {a b : Int} {t u : Tok} {Q : Value → Shared → Prop} (h : Q (.bool (decide (a < b))) s) : wpAny (model prog w) A (richCompare .Lt (.int a t) (.int b u)) Q E s := PyProof.Rows.lt_int h
theorem eb_int {prog : Program} {w : World} {A : Around} {E : Value → Shared → Prop} {s : Shared} {a b : Int} {t u : Tok} {Q : Bool → Shared → Prop} (h : Q (a == b) s) : wpAny (model prog w) A (eqBool (.int a t) (.int b u)) Q E s := PySem.SeqAt.EqAt.int_int a t b u prog w E Q h

/- by the first pair that differs -/
noncomputable def lexLt : List (Int × Int) → Bool
  | [] => false
  | (a, b) :: r => if a = b then lexLt r else decide (a < b)

inductive ZI : List (Value × Value) → List (Int × Int) → Prop
  | nil : ZI [] []
  | cons (a b t u) {r q} : ZI r q → ZI ((.int a t, .int b u) :: r) ((a, b) :: q)

theorem tuple_lt (l b : Addr) (items items2 : Array Value) (n n2 : Nat) (zs : List (Int × Int)) (hz : items.size = items2.size)
   (hZ : ZI (items.toList.zip items2.toList) zs) :
    Meets (Builtin.«tuple.__lt__» ⟨[.ref l, .ref b], []⟩)
      (fun A R s => s.heap.get? l = some (tupO items n) ∧ s.heap.get? b = some (tupO items2 n2) ∧ R (.ok (.ret (.bool (lexLt zs)))) s) :=
  .of_wp fun prog w A R s h => by
    obtain ⟨hp, g, d, tk, os⟩ := s; obtain ⟨hl, hb, h⟩ := h
    have f2 := AutoSeq1.sub_tuple_tuple
    wp_walk using wpAny_loadPart' hl, wpAny_loadPart' hb, wpAny_forIn_list _ (fun rest b s' => b.1 = none ∧ s' = ⟨hp, g, d, tk, os⟩ ∧ ∃ zs', ZI rest zs' ∧ 
      R (.ok (.ret (.bool (lexLt zs')))) ⟨hp, g, d, tk, os⟩) _
    case turn =>
      rintro ⟨y, x⟩ rest b s' ⟨hb', rfl, zs', hz', hR⟩
      cases hz' with
      | cons q1 q2 t u hz' =>
      refine wpAny_bind (eb_int ?_)
      by_cases he : q1 = q2
      · subst he
        simp [lexLt] at hR
        simp only [beq_self_eq_true]
        wp_walk
        exact ⟨rfl, rfl, _, hz', hR⟩
      · have : (q1 == q2) = false := by simpa using he
        rw [this]
        simp [lexLt, he] at hR
        wp_walk using rc_lt _
        exact ⟨_, rfl, hR⟩
    case fin =>
      rintro ⟨b1, b2⟩ s' ⟨hb', rfl, zs', hz', hR⟩
      simp only at hb'
      subst hb'
      cases hz'
      wp_walk
      exact ⟨_, rfl, by simpa [Builtin.Tuple.tupleCompareSizes, hz, lexLt] using hR⟩
    case h =>
      exact ⟨rfl, rfl, zs, hZ, h⟩

section
variable {w : World} {A : Around} {env : Env} {G : Heap → Prop}

/- the two names of the search, ahead of what stays -/
noncomputable abbrev bsq (lo hi : Nat) (rest : List (Str × PyData)) : List (Str × PyData) := (Str.ofString "lo", .int lo) :: (Str.ofString "hi", .int hi) :: rest

/- t is false below r, true from r on -/
noncomputable def Cut (t : Nat → Bool) (lo r n : Nat) : Prop := lo ≤ r ∧ r ≤ n ∧ (∀ i, lo ≤ i → i < r → t i = false) ∧ (∀ i, r ≤ i → i < n → t i = true)

theorem nolong (a b : Nat) : Builtin.divisionGoesByPylong ((a : Int) + b) 2 = false := by
  exact PyProof.noPylong_small (by decide)
theorem mid_eq (a b : Nat) : ((a : Int) + b).fdiv 2 = ((a + b) / 2 : Nat) := by
  rw [Int.fdiv_eq_ediv_of_nonneg _ (by decide)]
  omega

theorem whileR {h0 : Heap} {L : Addr} {vs : List (Str × Value)} {rest : List (Str × PyData)} {t : Nat → Bool} {lo₀ n r : Nat} {s : Shared} {E : Value → Shared → Prop} {Q : Flow → Shared → Prop} {cond : Expr} {more : List Stmt} {p1 p2 p3 p4 p5 p6 p7 p8 p9 p10 p11 p12 p13 p14 p15 p16 p17 p18 p19 p20 : Pos} {k k' : Nat}
    (hL : env.locals = L) (hk : env.scope.kind = .function) (klo : env.kindOf (Str.ofString "lo") = some .local) (khi : env.kindOf (Str.ofString "hi") = some .local) (kmid : env.kindOf (Str.ofString "mid") = some .local)
    (vlo : vs.lookup (Str.ofString "lo") = none) (vhi : vs.lookup (Str.ofString "hi") = none) (vmid : vs.lookup (Str.ofString "mid") = none) (h0L : h0.get? L = none)
    (hrest : ∀ lo hi m q : Nat, ∀ p ∈ rest, ((Str.ofString "hi", PyData.int q) :: (Str.ofString "mid", .int m) :: bsq lo hi rest).lookup p.1 = some p.2) (hrest' : ∀ lo hi m q : Nat, ∀ p ∈ rest, ((Str.ofString "lo", PyData.int q) :: (Str.ofString "mid", .int m) :: bsq lo hi rest).lookup p.1 = some p.2)
    (hvs : ∀ p ∈ vs, vs.lookup p.1 = some p.2)
    (hc : ∀ lo hi m : Nat, lo₀ ≤ m → m < n → TV w A env (GF h0 L ((Str.ofString "mid", .int m) :: bsq lo hi rest) vs) cond (t m))
    (cut : Cut t lo₀ r n) (g : GF h0 L (bsq lo₀ n rest) vs s.heap)
    (next : ∀ h' tk, GF h0 L (bsq r r rest) vs h' → wpAny (model thePr w) A (execs more env) Q E { s with heap := h', toks := tk }) :
    wpAny (model thePr w) A (execs (.While (.Compare (.Name (Str.ofString "lo") p1) [.Lt] [.Name (Str.ofString "hi") p2] p3)
      [.Assign [.Name (Str.ofString "mid") p4] (.BinOp (.BinOp (.Name (Str.ofString "lo") p5) .Add (.Name (Str.ofString "hi") p6) p7) .FloorDiv (.Constant (.int 2) k p8) p9) p10,
       .If cond [.Assign [.Name (Str.ofString "hi") p11] (.Name (Str.ofString "mid") p12) p13] [.Assign [.Name (Str.ofString "lo") p14] (.BinOp (.Name (Str.ofString "mid") p15) .Add (.Constant (.int 1) k' p16) p17) p18] p19] [] p20 :: more) env) Q E s := by
  have hp : (env.scope.kind == .class || (env.scope.kind == .module && env.locals != env.globals)) = false := by rw [hk]; rfl
  refine wpAny_execs_cons (wpAny_While (codeAny_whileLoop (fun j s' => ∃ lo hi h' tk, s' = { s with heap := h', toks := tk } ∧ GF h0 L (bsq lo hi rest) vs h' ∧ lo₀ ≤ lo ∧ lo ≤ r ∧ r ≤ hi ∧ hi ≤ n ∧ j = hi - lo) ?_ (n - lo₀) ⟨lo₀, n, s.heap, s.toks, rfl, g, Nat.le_refl _, cut.1, cut.2.1, Nat.le_refl _, rfl⟩))
  rintro j s' ⟨lo, hi, h', tk, rfl, g', h1, h2, h3, h4, rfl⟩
  have lo' : ∀ h0' vs', EV w A env (GF h0' L (bsq lo hi rest) vs') false (.Name (Str.ofString "lo") p1) (.int lo) := fun _ _ => EV.loc rfl hL hk klo rfl
  have hi' : EV w A env (GF h0 L (bsq lo hi rest) vs) false (.Name (Str.ofString "hi") p2) (.int hi) := EV.loc rfl hL hk khi rfl
  refine wpAny_mono (TV.lt mono_GF (EV.loc (d := .int lo) rfl hL hk klo rfl) hi' rfl _ _ g') (fun b s₂ h₂ => ?_) fun _ _ x => x
  obtain ⟨rfl, h₂, tk₂, rfl, k₂⟩ := h₂
  have g₂ := mono_GF _ _ k₂ g'
  by_cases hlt : lo < hi
  · rw [if_pos (by simpa using hlt)]
    have hm1 : lo ≤ (lo + hi) / 2 := by omega
    have hm2 : (lo + hi) / 2 < hi := by omega
    refine st_assign (d := .int ((lo + hi) / 2 : Nat)) (f := true) g₂ h0L ?_ hL kmid hp vmid rfl fun h₃ tk₃ g₃ => ?_
    · rw [← mid_eq]
      exact EV.fdiv mono_GF (by decide) (nolong _ _) (EV.add mono_GF (EV.loc (d := .int lo) rfl hL hk klo rfl) (EV.loc (d := .int hi) rfl hL hk khi rfl)) EV.int
    · refine st_if g₃ mono_GF (hc lo hi _ (by omega) (by omega)) fun s₄ g₄ k₄ => ?_
      obtain ⟨h₄, tk₄, rfl, k₄⟩ := k₄
      cases ht : t ((lo + hi) / 2) with
      | true =>
        have hr : r ≤ (lo + hi) / 2 := by
          apply Nat.le_of_not_lt
          intro hq
          have := cut.2.2.1 ((lo + hi) / 2) (by omega) hq
          rw [ht] at this; cases this
        refine st_assign (d := .int ((lo + hi) / 2 : Nat)) g₄ h0L (EV.loc rfl hL hk kmid rfl) hL khi hp vhi rfl fun h₅ tk₅ g₅ => wpAny_execs_nil (wpAny_execs_nil ?_)
        exact ⟨(lo + hi) / 2 - lo, by omega, lo, (lo + hi) / 2, h₅, tk₅, rfl, ⟨g₅.1, g₅.2.sub (fun p hp => by
          rcases List.mem_cons.mp hp with rfl | hp
          · rfl
          · rcases List.mem_cons.mp hp with rfl | hp
            · rfl
            · exact hrest _ _ _ _ p hp) hvs⟩, h1, h2, hr, by omega, rfl⟩
      | false =>
        have hr : (lo + hi) / 2 < r := by
          apply Nat.lt_of_not_le
          intro hq
          have := cut.2.2.2 ((lo + hi) / 2) hq (by omega)
          rw [ht] at this; cases this
        refine st_assign (d := .int ((lo + hi) / 2 + 1 : Nat)) g₄ h0L (EV.add mono_GF (i := ((lo + hi) / 2 : Nat)) (j := 1) (EV.loc rfl hL hk kmid rfl) EV.int) hL klo hp vlo rfl fun h₅ tk₅ g₅ => wpAny_execs_nil (wpAny_execs_nil ?_)
        exact ⟨hi - ((lo + hi) / 2 + 1), by omega, (lo + hi) / 2 + 1, hi, h₅, tk₅, rfl, ⟨g₅.1, g₅.2.sub (fun p hp => by
          rcases List.mem_cons.mp hp with rfl | hp
          · rfl
          · rcases List.mem_cons.mp hp with rfl | hp
            · rfl
            · exact hrest' _ _ _ _ p hp) hvs⟩, by omega, by omega, h3, h4, rfl⟩
  · rw [if_neg (by simpa using hlt)]
    refine wpAny_execs_nil ?_
    have e1 : lo = r := by omega
    have e2 : hi = r := by omega
    subst e1
    rw [e2] at g₂
    exact next _ _ g₂
theorem whileL {h0 : Heap} {L : Addr} {vs : List (Str × Value)} {rest : List (Str × PyData)} {t : Nat → Bool} {lo₀ n r : Nat} {s : Shared} {E : Value → Shared → Prop} {Q : Flow → Shared → Prop} {cond : Expr} {more : List Stmt} {p1 p2 p3 p4 p5 p6 p7 p8 p9 p10 p11 p12 p13 p14 p15 p16 p17 p18 p19 p20 : Pos} {k k' : Nat}
    (hL : env.locals = L) (hk : env.scope.kind = .function) (klo : env.kindOf (Str.ofString "lo") = some .local) (khi : env.kindOf (Str.ofString "hi") = some .local) (kmid : env.kindOf (Str.ofString "mid") = some .local)
    (vlo : vs.lookup (Str.ofString "lo") = none) (vhi : vs.lookup (Str.ofString "hi") = none) (vmid : vs.lookup (Str.ofString "mid") = none) (h0L : h0.get? L = none)
    (hrest : ∀ lo hi m q : Nat, ∀ p ∈ rest, ((Str.ofString "hi", PyData.int q) :: (Str.ofString "mid", .int m) :: bsq lo hi rest).lookup p.1 = some p.2) (hrest' : ∀ lo hi m q : Nat, ∀ p ∈ rest, ((Str.ofString "lo", PyData.int q) :: (Str.ofString "mid", .int m) :: bsq lo hi rest).lookup p.1 = some p.2)
    (hvs : ∀ p ∈ vs, vs.lookup p.1 = some p.2)
    (hc : ∀ lo hi m : Nat, lo₀ ≤ m → m < n → TV w A env (GF h0 L ((Str.ofString "mid", .int m) :: bsq lo hi rest) vs) cond (!t m))
    (cut : Cut t lo₀ r n) (g : GF h0 L (bsq lo₀ n rest) vs s.heap)
    (next : ∀ h' tk, GF h0 L (bsq r r rest) vs h' → wpAny (model thePr w) A (execs more env) Q E { s with heap := h', toks := tk }) :
    wpAny (model thePr w) A (execs (.While (.Compare (.Name (Str.ofString "lo") p1) [.Lt] [.Name (Str.ofString "hi") p2] p3)
      [.Assign [.Name (Str.ofString "mid") p4] (.BinOp (.BinOp (.Name (Str.ofString "lo") p5) .Add (.Name (Str.ofString "hi") p6) p7) .FloorDiv (.Constant (.int 2) k p8) p9) p10,
       .If cond [.Assign [.Name (Str.ofString "lo") p14] (.BinOp (.Name (Str.ofString "mid") p15) .Add (.Constant (.int 1) k' p16) p17) p18] [.Assign [.Name (Str.ofString "hi") p11] (.Name (Str.ofString "mid") p12) p13] p19] [] p20 :: more) env) Q E s := by
  have hp : (env.scope.kind == .class || (env.scope.kind == .module && env.locals != env.globals)) = false := by rw [hk]; rfl
  refine wpAny_execs_cons (wpAny_While (codeAny_whileLoop (fun j s' => ∃ lo hi h' tk, s' = { s with heap := h', toks := tk } ∧ GF h0 L (bsq lo hi rest) vs h' ∧ lo₀ ≤ lo ∧ lo ≤ r ∧ r ≤ hi ∧ hi ≤ n ∧ j = hi - lo) ?_ (n - lo₀) ⟨lo₀, n, s.heap, s.toks, rfl, g, Nat.le_refl _, cut.1, cut.2.1, Nat.le_refl _, rfl⟩))
  rintro j s' ⟨lo, hi, h', tk, rfl, g', h1, h2, h3, h4, rfl⟩
  have lo' : ∀ h0' vs', EV w A env (GF h0' L (bsq lo hi rest) vs') false (.Name (Str.ofString "lo") p1) (.int lo) := fun _ _ => EV.loc rfl hL hk klo rfl
  have hi' : EV w A env (GF h0 L (bsq lo hi rest) vs) false (.Name (Str.ofString "hi") p2) (.int hi) := EV.loc rfl hL hk khi rfl
  refine wpAny_mono (TV.lt mono_GF (EV.loc (d := .int lo) rfl hL hk klo rfl) hi' rfl _ _ g') (fun b s₂ h₂ => ?_) fun _ _ x => x
  obtain ⟨rfl, h₂, tk₂, rfl, k₂⟩ := h₂
  have g₂ := mono_GF _ _ k₂ g'
  by_cases hlt : lo < hi
  · rw [if_pos (by simpa using hlt)]
    have hm1 : lo ≤ (lo + hi) / 2 := by omega
    have hm2 : (lo + hi) / 2 < hi := by omega
    refine st_assign (d := .int ((lo + hi) / 2 : Nat)) (f := true) g₂ h0L ?_ hL kmid hp vmid rfl fun h₃ tk₃ g₃ => ?_
    · rw [← mid_eq]
      exact EV.fdiv mono_GF (by decide) (nolong _ _) (EV.add mono_GF (EV.loc (d := .int lo) rfl hL hk klo rfl) (EV.loc (d := .int hi) rfl hL hk khi rfl)) EV.int
    · refine st_if g₃ mono_GF (hc lo hi _ (by omega) (by omega)) fun s₄ g₄ k₄ => ?_
      obtain ⟨h₄, tk₄, rfl, k₄⟩ := k₄
      cases ht : t ((lo + hi) / 2) with
      | true =>
        have hr : r ≤ (lo + hi) / 2 := by
          apply Nat.le_of_not_lt
          intro hq
          have := cut.2.2.1 ((lo + hi) / 2) (by omega) hq
          rw [ht] at this; cases this
        refine st_assign (d := .int ((lo + hi) / 2 : Nat)) g₄ h0L (EV.loc rfl hL hk kmid rfl) hL khi hp vhi rfl fun h₅ tk₅ g₅ => wpAny_execs_nil (wpAny_execs_nil ?_)
        exact ⟨(lo + hi) / 2 - lo, by omega, lo, (lo + hi) / 2, h₅, tk₅, rfl, ⟨g₅.1, g₅.2.sub (fun p hp => by
          rcases List.mem_cons.mp hp with rfl | hp
          · rfl
          · rcases List.mem_cons.mp hp with rfl | hp
            · rfl
            · exact hrest _ _ _ _ p hp) hvs⟩, h1, h2, hr, by omega, rfl⟩
      | false =>
        have hr : (lo + hi) / 2 < r := by
          apply Nat.lt_of_not_le
          intro hq
          have := cut.2.2.2 ((lo + hi) / 2) hq (by omega)
          rw [ht] at this; cases this
        refine st_assign (d := .int ((lo + hi) / 2 + 1 : Nat)) g₄ h0L (EV.add mono_GF (i := ((lo + hi) / 2 : Nat)) (j := 1) (EV.loc rfl hL hk kmid rfl) EV.int) hL klo hp vlo rfl fun h₅ tk₅ g₅ => wpAny_execs_nil (wpAny_execs_nil ?_)
        exact ⟨hi - ((lo + hi) / 2 + 1), by omega, (lo + hi) / 2 + 1, hi, h₅, tk₅, rfl, ⟨g₅.1, g₅.2.sub (fun p hp => by
          rcases List.mem_cons.mp hp with rfl | hp
          · rfl
          · rcases List.mem_cons.mp hp with rfl | hp
            · rfl
            · exact hrest' _ _ _ _ p hp) hvs⟩, by omega, by omega, h3, h4, rfl⟩
  · rw [if_neg (by simpa using hlt)]
    refine wpAny_execs_nil ?_
    have e1 : lo = r := by omega
    have e2 : hi = r := by omega
    subst e1
    rw [e2] at g₂
    exact next _ _ g₂
end
end Mine
set_option maxRecDepth 100000
set_option linter.all false
namespace Mine
open PySem PySem.Spec PySem.Calls PyProof.Rows PySem.W

/- room for n more frames -/
structure Room (n : Nat) (A : Around) : Prop where
  depth : A.depth + n < recursionLimit
  units : A.units + 8 * n + 64 < cLine
  handled : A.handled = none
theorem Room.deeper {n : Nat} {A : Around} (r : Room (n + 1) A) (env : Env) : Room n (A.deeper env) :=
  ⟨by have := r.depth; show A.depth + 1 + n < _; omega, by have := r.units; show A.units + 3 + 8 * n + 64 < _; omega, r.handled⟩
theorem Room.le {n m : Nat} {A : Around} (r : Room n A) (h : m ≤ n) : Room m A := ⟨by have := r.depth; omega, by have := r.units; omega, r.handled⟩
theorem Room.here {n : Nat} {A : Around} (r : Room n A) : A.depth < recursionLimit := by have := r.depth; omega

/- x < y, by what they bear -/
noncomputable def LtD (d e : PyData) (b : Bool) : Prop := ∀ (w : World) (A : Around) (s : Shared) (E : Value → Shared → Prop) (x y : Value) (as bs : List Addr), A.units < cLine → Rds s.heap x d as → Rds s.heap y e bs →
  wpAny (model thePr w) A (compareOp .Lt x y) (fun v s' => v = .bool b ∧ Keeps s s') E s
theorem LtD.int (i j : Int) : LtD (.int i) (.int j) (decide (i < j)) := fun w A s E x y as bs _ rx ry => by
  exact rdsI rx fun _ => rdsI ry fun _ => PyProof.Rows.lt_int ⟨rfl, keeps_refl _⟩
theorem LtD.tup2 (a b c d : Int) : LtD (.tuple [.int a, .int b]) (.tuple [.int c, .int d]) (lexLt [(a, c), (b, d)]) := fun w A s E x y as bs hu rx ry => by
  refine rdsT2 rx fun p n _ _ _ _ ho r1 r3 => rdsT2 ry fun q n2 _ _ _ _ ho2 r5 r6 => ?_
  revert ho ho2
  refine rdsI r1 fun _ => rdsI r3 fun _ => rdsI r5 fun _ => rdsI r6 fun _ ho ho2 => ?_
  exact richCompare_meets_room (op := .Lt) ⟨_, ho, rfl⟩ ⟨_, ho2, rfl⟩ F.slot_tuple_lt F.entry_tuple_lt (F.args_tuple_lt_2 _ _) (tuple_lt p q #[.int a _, .int b _] #[.int c _, .int d _] n n2 [(a, c), (b, d)] rfl (.cons _ _ _ _ (.cons _ _ _ _ .nil)))
    ⟨ho, ho2, show Value.bool _ ≠ Value.notImplemented ∧ _ from ⟨(fun x => nomatch x), rfl, keeps_refl _⟩⟩ hu

section
variable {w : World} {A : Around} {env : Env} {G : Heap → Prop}
theorem TV.isNone (hm : Mono G) {f : Bool} {l : Expr} {p pos : Pos} {k : Nat} {a : PyData} {b : Bool} (hl : EV w A env G f l a) (hb : (match a with | .none => true | _ => false) = b) : TV w A env G (.Compare l [.Is] [.Constant .none k p] pos) b := by
  intro s E g
  refine wpAny_isTrue_Compare1 (ev_go (hl s E g) fun x s₁ as ra k₁ => ?_) rfl
  refine wpAny_pure (is_none_gen (wpAny_truthy_bool ⟨?_, k₁⟩))
  subst hb
  cases ra <;> rfl
theorem TV.isNoneV (hm : Mono G) {x : Str} {p p' pos : Pos} {k : Nat} {v : Value} {b : Bool} (hl : NV env G x v) (hb : (v == .none) = b) : TV w A env G (.Compare (.Name x p') [.Is] [.Constant .none k p] pos) b := by
  intro s E g
  refine wpAny_isTrue_Compare1 (hl _ _ _ _ _ _ g ?_) rfl
  exact wpAny_pure (is_none_gen (wpAny_truthy_bool ⟨hb, keeps_refl _⟩))
theorem TV.ltd (hm : Mono G) (hu : A.units < cLine) {f g : Bool} {l r : Expr} {pos : Pos} {a b : PyData} {c : Bool} (hl : EV w A env G f l a) (hr : EV w A env G g r b) (hc : LtD a b c) (hb : autoParam (behindInMarks .Lt r = false) byRfl) : TV w A env G (.Compare l [.Lt] [r] pos) c :=
  .cmp hm hb hl hr fun s E x y as bs _ rx ry => hc w A s E x y as bs hu rx ry

/- names bound to data, ahead of names bound to values -/
theorem GF.start {s : Shared} {binds : List (Str × Value)} {h₀ : Heap} {bs : List (Str × PyData)} {vs : List (Str × Value)} (n : h₀.Ns s.heap.objs.size (fun x => binds.reverse.lookup x)) (k : Kf s.heap h₀)
    (hb : ∀ p ∈ bs, ∃ v as, binds.reverse.lookup p.1 = some v ∧ Rds s.heap v p.2 as) (hv : ∀ p ∈ vs, binds.reverse.lookup p.1 = some p.2) : GF s.heap s.heap.objs.size bs vs h₀ :=
  ⟨k, _, n, fun x d e => by
    obtain ⟨v, as, e1, e2⟩ := hb (x, d) (PySem.mem_of_lookup e)
    exact ⟨v, as, e1, rds_kp (.of_keep k) e2⟩, fun x v e => hv (x, v) (PySem.mem_of_lookup e)⟩

noncomputable def keyOf : PyData → PyData | .tuple (d :: _) => d | _ => .none

/- what a search over ds for d finds; kd: by the first of each -/
theorem EV.first (hm : Mono G) (hA : Room 1 A) (hG : ∀ h, G h → Base h) {b : Bool} {x : Str} {e : Expr} {p pos : Pos} {d : PyData} {ds : List PyData} (hn : NV env G x (.ref 182)) (he : EV w A env G b e (.tuple (d :: ds))) (hf : flat d = true)
    (hs : autoParam (starEach [e] env = (false, eval e env) :: starEach [] env) byRfl) : EV w A env G true (.Call (.Name x p) [e] [] pos) d :=
  .call hm hn (.fn fun h g => by obtain ⟨o, pm, ho, hd⟩ := (hG h g).frst.1; exact ⟨o, _, ho, hd⟩) (.cons hm he .nil hs) (fun s E vs as g r => by
    refine rds1 r fun x1z b1z r => ?_
    exact first_ok hA.here (hG _ g) r fun v' s' cs r' k => by
      have := rds_flat r' hf
      subst this
      exact ⟨⟨[], r', fun _ h => nomatch h⟩, k⟩) hs

section
variable {s : Shared} {E : Value → Shared → Prop} {Q : Value → Shared → Prop}
/- the body of bisect_right -/
theorem bisr_body {h0 : Heap} {L : Addr} {fa : Addr} {pm : Value} {kv : Value} {ds : List PyData} {d : PyData} {lo r : Nat} {t : Nat → Bool} (hA : Room 2 A) (B : Base h0) (h0L : h0.get? L = none)
    (hkv : kv = .none ∧ (∀ i e, ds[i]? = some e → lo ≤ i → LtD d e (t i)) ∨ kv = .ref 182 ∧ (∀ i e, ds[i]? = some e → lo ≤ i → ∃ k ks, e = .tuple (k :: ks) ∧ flat k = true ∧ LtD d k (t i)))
    (hz : ds.length < 2 ^ 62) (cut : Cut t lo r ds.length)
    (g : GF h0 L [("a", .list ds), ("x", d), ("lo", .int lo), ("hi", .none)] [("key", kv)] s.heap)
    (hQ : ∀ h' tk u, Kf h0 h' → Q (.int r u) { s with heap := h', toks := tk }) :
    wpAny (model thePr w) A (execs (dBody (topSt 4)) (callEnv (fdOf "bisect_right" (topSt 4) (.ref 48) (.ref 49) pm 55) L fa)) (fun f s' => Q (match f with | .ret v => v | _ => .none) s') E s := by
  have hBG : ∀ bs vs h, GF h0 L bs vs h → Base h := fun bs vs h g => B.kp (.of_keep g.1)
  refine st_if (b := decide ((lo : Int) < 0)) g mono_GF (TV.lt mono_GF (EV.loc rfl rfl rfl rfl rfl) EV.int) fun s₁ g₁ k₁ => ?_
  rw [decide_eq_false (by omega)]
  refine wpAny_execs_nil ?_
  obtain ⟨h₁, tk₁, rfl, k₁⟩ := k₁
  refine st_if (b := true) g₁ mono_GF (TV.isNone mono_GF (EV.loc (d := .none) rfl rfl rfl rfl rfl) rfl) fun s₂ g₂ k₂ => ?_
  obtain ⟨h₂, tk₂, rfl, k₂⟩ := k₂
  refine st_assign g₂ h0L (EV.len mono_GF (NV.built (hBG _ _) rfl rfl rfl rfl rfl rfl) (EV.loc (d := .list ds) rfl rfl rfl rfl rfl) (by omega)) rfl rfl rfl rfl rfl fun h₃ tk₃ g₃ => wpAny_execs_nil ?_
  have g₃ : GF h0 L (bsq lo ds.length [("a", .list ds), ("x", d)]) [("key", kv)] h₃ := ⟨g₃.1, g₃.2.sub (fun p hp => by
    simp at hp
    rcases hp with rfl | rfl | rfl | rfl <;> rfl) (fun p hp => by simp at hp; subst hp; rfl)⟩
  rcases hkv with ⟨rfl, ht⟩ | ⟨rfl, ht⟩
  · refine st_if (b := true) g₃ mono_GF (TV.isNoneV mono_GF (NV.loc (v := .none) rfl rfl rfl rfl rfl) rfl) fun s₄ g₄ k₄ => ?_
    obtain ⟨h₄, tk₄, rfl, k₄⟩ := k₄
    refine whileR rfl rfl rfl rfl rfl rfl rfl rfl h0L ?_ ?_ ?_ ?_ cut g₄ fun h₅ tk₅ g₅ => wpAny_execs_nil ?_
    · intro lo hi m q p hp
      simp at hp
      rcases hp with rfl | rfl <;> rfl
    · intro lo hi m q p hp
      simp at hp
      rcases hp with rfl | rfl <;> rfl
    · intro p hp; simp at hp; subst hp; rfl
    · intro lo' hi m h1 h2
      refine TV.ltd mono_GF (by have := hA.units; omega) (EV.loc (d := d) rfl rfl rfl rfl rfl) (EV.item (ds := ds) (k := (m : Int)) (d := ds[m]) mono_GF (by omega) (by omega) (by simp [h2]) (EV.loc rfl rfl rfl rfl rfl) (EV.loc (d := .int m) rfl rfl rfl rfl rfl)) (ht m ds[m] (by simp [h2]) h1)
    · exact st_ret g₅ (EV.loc (d := .int r) rfl rfl rfl rfl rfl) fun v s' as rv _ k' => by
        first | refine rdsI rv fun _ => ?_ | refine rdsS rv fun _ => ?_ | refine rdsB rv ?_ | refine rdsN rv ?_
        obtain ⟨h', tk', rfl, k'⟩ := k'
        exact hQ h' tk' _ (g₅.1.trans k')
  · refine st_if (b := false) g₃ mono_GF (TV.isNoneV mono_GF (NV.loc (v := .ref 182) rfl rfl rfl rfl rfl) rfl) fun s₄ g₄ k₄ => ?_
    obtain ⟨h₄, tk₄, rfl, k₄⟩ := k₄
    refine whileR rfl rfl rfl rfl rfl rfl rfl rfl h0L ?_ ?_ ?_ ?_ cut g₄ fun h₅ tk₅ g₅ => wpAny_execs_nil ?_
    · intro lo hi m q p hp
      simp at hp
      rcases hp with rfl | rfl <;> rfl
    · intro lo hi m q p hp
      simp at hp
      rcases hp with rfl | rfl <;> rfl
    · intro p hp; simp at hp; subst hp; rfl
    · intro lo' hi m h1 h2
      obtain ⟨kk, ks, e1, e2, e3⟩ := ht m ds[m] (by simp [h2]) h1
      refine TV.ltd mono_GF (by have := hA.units; omega) (EV.loc (d := d) rfl rfl rfl rfl rfl) (EV.first mono_GF (hA.le (by omega)) (hBG _ _) (NV.loc rfl rfl rfl rfl rfl) (EV.item (ds := ds) (k := (m : Int)) mono_GF (by omega) (by omega) (by simp [h2]; exact e1) (EV.loc rfl rfl rfl rfl rfl) (EV.loc (d := .int m) rfl rfl rfl rfl rfl)) e2) e3
    · exact st_ret g₅ (EV.loc (d := .int r) rfl rfl rfl rfl rfl) fun v s' as rv _ k' => by
        first | refine rdsI rv fun _ => ?_ | refine rdsS rv fun _ => ?_ | refine rdsB rv ?_ | refine rdsN rv ?_
        obtain ⟨h', tk', rfl, k'⟩ := k'
        exact hQ h' tk' _ (g₅.1.trans k')
end
end
end Mine
set_option maxRecDepth 100000
set_option linter.all false
namespace Mine
open PySem PySem.Spec PySem.Calls PyProof.Rows PySem.W
theorem BindsTo.dk2 {s : Shared} {fd : FuncData} {args : Args} {binds : List (Str × Value)} {T D : Addr} {o : Obj} {items : Array Value} {n : Nat} {m : Str → Option Value} {name : Str} {v : Value} {α β : Type}
    {k : Option (Array Value) → Sem (List (Str × Value))} {f1 : Option Value → Sem α} {f2 : α → Sem β} {f3 : β → Sem (List (Str × Value))} (hd : fd.defaults = .ref T) (ho : s.heap.get? T = some o) (hs : o.data = .seq items n) (hn : s.heap.Ns D m) (hv : m name = some v)
    (h₁ : bindArgs fd args = seqItems? fd.defaults >>= k) (h₂ : k (some items) = ((nsGet D name >>= f1) >>= f2) >>= f3) (h₃ : (f1 (some v) >>= f2) >>= f3 = pure binds) : BindsTo s fd args binds :=
  fun _ _ _ _ hq => by
    rw [h₁, hd]
    refine wpAny_bind (wpAny_seqItems ho hs ?_)
    rw [h₂]
    rw [bind_assoc, bind_assoc]
    refine wpAny_bind (wpAny_nsGet hn ?_)
    rw [hv]
    rw [bind_assoc] at h₃
    rw [h₃]
    exact wpAny_pure hq
section
variable {w : World} {A : Around} {env : Env} {G : Heap → Prop}
variable {s : Shared} {E : Value → Shared → Prop} {Q : Value → Shared → Prop}
theorem bisr4 {va vx : Value} {u : Tok} {kv : Value} {kw : List (Str × Value)} {ds : List PyData} {d : PyData} {as bs : List Addr} {lo r : Nat} {t : Nat → Bool} (hA : Room 3 A) (B : Base s.heap)
    (hkw : kw = [] ∧ kv = .none ∨ kw = [(("key" : Str), kv)])
    (ra : Rds s.heap va (.list ds) as) (rx : Rds s.heap vx d bs)
    (hkv : kv = .none ∧ (∀ i e, ds[i]? = some e → lo ≤ i → LtD d e (t i)) ∨ kv = .ref 182 ∧ (∀ i e, ds[i]? = some e → lo ≤ i → ∃ k ks, e = .tuple (k :: ks) ∧ flat k = true ∧ LtD d k (t i)))
    (hz : ds.length < 2 ^ 62) (cut : Cut t lo r ds.length)
    (hQ : ∀ h' tk u, Kf s.heap h' → Q (.int r u) { s with heap := h', toks := tk }) :
    wpAny (model thePr w) A (PySem.call (.ref 56) [va, vx, .int lo u, .none] kw) Q E s := by
  obtain ⟨t0, hdf⟩ := B.dfl 48 (by simp)
  obtain ⟨m, hn, hm⟩ := B.kwd 49 (by simp)
  refine callFn (binds := [("a", va), ("x", vx), ("lo", .int lo u), ("hi", .none), ("key", kv)]) B.bisr B.lim hA.here (fun pm => ?_) (by decide) (locs rfl) fun pm h₀ n k => ?_
  · rcases hkw with ⟨rfl, rfl⟩ | rfl
    · refine BindsTo.dk2 rfl hdf rfl hn hm rfl rfl rfl
    · exact BindsTo.of_defaults rfl hdf rfl rfl rfl
  · refine bisr_body (hA.deeper _) B (fresh_size _) hkv hz cut (GF.start n k ?_ ?_) fun h' tk u k' => hQ h' tk u k'
    · intro p hp
      simp at hp
      rcases hp with rfl | rfl | rfl | rfl
      · exact ⟨_, _, rfl, ra⟩
      · exact ⟨_, _, rfl, rx⟩
      · exact ⟨_, _, rfl, .int _ _⟩
      · exact ⟨_, _, rfl, .none⟩
    · intro p hp; simp at hp; subst hp; rfl
/- the body of bisect_left -/
theorem bisl_body {h0 : Heap} {L : Addr} {fa : Addr} {pm : Value} {kv : Value} {ds : List PyData} {d : PyData} {lo r : Nat} {t : Nat → Bool} (hA : Room 2 A) (B : Base h0) (h0L : h0.get? L = none)
    (hkv : kv = .none ∧ (∀ i e, ds[i]? = some e → lo ≤ i → LtD e d (!t i)) ∨ kv = .ref 182 ∧ (∀ i e, ds[i]? = some e → lo ≤ i → ∃ k ks, e = .tuple (k :: ks) ∧ flat k = true ∧ LtD k d (!t i)))
    (hz : ds.length < 2 ^ 62) (cut : Cut t lo r ds.length)
    (g : GF h0 L [("a", .list ds), ("x", d), ("lo", .int lo), ("hi", .none)] [("key", kv)] s.heap)
    (hQ : ∀ h' tk u, Kf h0 h' → Q (.int r u) { s with heap := h', toks := tk }) :
    wpAny (model thePr w) A (execs (dBody (topSt 6)) (callEnv (fdOf "bisect_left" (topSt 6) (.ref 66) (.ref 67) pm 73) L fa)) (fun f s' => Q (match f with | .ret v => v | _ => .none) s') E s := by
  have hBG : ∀ bs vs h, GF h0 L bs vs h → Base h := fun bs vs h g => B.kp (.of_keep g.1)
  refine st_if (b := decide ((lo : Int) < 0)) g mono_GF (TV.lt mono_GF (EV.loc rfl rfl rfl rfl rfl) EV.int) fun s₁ g₁ k₁ => ?_
  rw [decide_eq_false (by omega)]
  refine wpAny_execs_nil ?_
  obtain ⟨h₁, tk₁, rfl, k₁⟩ := k₁
  refine st_if (b := true) g₁ mono_GF (TV.isNone mono_GF (EV.loc (d := .none) rfl rfl rfl rfl rfl) rfl) fun s₂ g₂ k₂ => ?_
  obtain ⟨h₂, tk₂, rfl, k₂⟩ := k₂
  refine st_assign g₂ h0L (EV.len mono_GF (NV.built (hBG _ _) rfl rfl rfl rfl rfl rfl) (EV.loc (d := .list ds) rfl rfl rfl rfl rfl) (by omega)) rfl rfl rfl rfl rfl fun h₃ tk₃ g₃ => wpAny_execs_nil ?_
  have g₃ : GF h0 L (bsq lo ds.length [("a", .list ds), ("x", d)]) [("key", kv)] h₃ := ⟨g₃.1, g₃.2.sub (fun p hp => by
    simp at hp
    rcases hp with rfl | rfl | rfl | rfl <;> rfl) (fun p hp => by simp at hp; subst hp; rfl)⟩
  rcases hkv with ⟨rfl, ht⟩ | ⟨rfl, ht⟩
  · refine st_if (b := true) g₃ mono_GF (TV.isNoneV mono_GF (NV.loc (v := .none) rfl rfl rfl rfl rfl) rfl) fun s₄ g₄ k₄ => ?_
    obtain ⟨h₄, tk₄, rfl, k₄⟩ := k₄
    refine whileL rfl rfl rfl rfl rfl rfl rfl rfl h0L ?_ ?_ ?_ ?_ cut g₄ fun h₅ tk₅ g₅ => wpAny_execs_nil ?_
    · intro lo hi m q p hp
      simp at hp
      rcases hp with rfl | rfl <;> rfl
    · intro lo hi m q p hp
      simp at hp
      rcases hp with rfl | rfl <;> rfl
    · intro p hp; simp at hp; subst hp; rfl
    · intro lo' hi m h1 h2
      refine TV.ltd mono_GF (by have := hA.units; omega) (EV.item (ds := ds) (k := (m : Int)) (d := ds[m]) mono_GF (by omega) (by omega) (by simp [h2]) (EV.loc rfl rfl rfl rfl rfl) (EV.loc (d := .int m) rfl rfl rfl rfl rfl)) (EV.loc (d := d) rfl rfl rfl rfl rfl) (ht m ds[m] (by simp [h2]) h1)
    · exact st_ret g₅ (EV.loc (d := .int r) rfl rfl rfl rfl rfl) fun v s' as rv _ k' => by
        first | refine rdsI rv fun _ => ?_ | refine rdsS rv fun _ => ?_ | refine rdsB rv ?_ | refine rdsN rv ?_
        obtain ⟨h', tk', rfl, k'⟩ := k'
        exact hQ h' tk' _ (g₅.1.trans k')
  · refine st_if (b := false) g₃ mono_GF (TV.isNoneV mono_GF (NV.loc (v := .ref 182) rfl rfl rfl rfl rfl) rfl) fun s₄ g₄ k₄ => ?_
    obtain ⟨h₄, tk₄, rfl, k₄⟩ := k₄
    refine whileL rfl rfl rfl rfl rfl rfl rfl rfl h0L ?_ ?_ ?_ ?_ cut g₄ fun h₅ tk₅ g₅ => wpAny_execs_nil ?_
    · intro lo hi m q p hp
      simp at hp
      rcases hp with rfl | rfl <;> rfl
    · intro lo hi m q p hp
      simp at hp
      rcases hp with rfl | rfl <;> rfl
    · intro p hp; simp at hp; subst hp; rfl
    · intro lo' hi m h1 h2
      obtain ⟨kk, ks, e1, e2, e3⟩ := ht m ds[m] (by simp [h2]) h1
      refine TV.ltd mono_GF (by have := hA.units; omega) (EV.first mono_GF (hA.le (by omega)) (hBG _ _) (NV.loc rfl rfl rfl rfl rfl) (EV.item (ds := ds) (k := (m : Int)) mono_GF (by omega) (by omega) (by simp [h2]; exact e1) (EV.loc rfl rfl rfl rfl rfl) (EV.loc (d := .int m) rfl rfl rfl rfl rfl)) e2) (EV.loc (d := d) rfl rfl rfl rfl rfl) e3
    · exact st_ret g₅ (EV.loc (d := .int r) rfl rfl rfl rfl rfl) fun v s' as rv _ k' => by
        first | refine rdsI rv fun _ => ?_ | refine rdsS rv fun _ => ?_ | refine rdsB rv ?_ | refine rdsN rv ?_
        obtain ⟨h', tk', rfl, k'⟩ := k'
        exact hQ h' tk' _ (g₅.1.trans k')
theorem bisl4 {va vx : Value} {u : Tok} {kv : Value} {kw : List (Str × Value)} {ds : List PyData} {d : PyData} {as bs : List Addr} {lo r : Nat} {t : Nat → Bool} (hA : Room 3 A) (B : Base s.heap)
    (hkw : kw = [] ∧ kv = .none ∨ kw = [(("key" : Str), kv)])
    (ra : Rds s.heap va (.list ds) as) (rx : Rds s.heap vx d bs)
    (hkv : kv = .none ∧ (∀ i e, ds[i]? = some e → lo ≤ i → LtD e d (!t i)) ∨ kv = .ref 182 ∧ (∀ i e, ds[i]? = some e → lo ≤ i → ∃ k ks, e = .tuple (k :: ks) ∧ flat k = true ∧ LtD k d (!t i)))
    (hz : ds.length < 2 ^ 62) (cut : Cut t lo r ds.length)
    (hQ : ∀ h' tk u, Kf s.heap h' → Q (.int r u) { s with heap := h', toks := tk }) :
    wpAny (model thePr w) A (PySem.call (.ref 74) [va, vx, .int lo u, .none] kw) Q E s := by
  obtain ⟨t0, hdf⟩ := B.dfl 66 (by simp)
  obtain ⟨m, hn, hm⟩ := B.kwd 67 (by simp)
  refine callFn (binds := [("a", va), ("x", vx), ("lo", .int lo u), ("hi", .none), ("key", kv)]) B.bisl B.lim hA.here (fun pm => ?_) (by decide) (locs rfl) fun pm h₀ n k => ?_
  · rcases hkw with ⟨rfl, rfl⟩ | rfl
    · refine BindsTo.dk2 rfl hdf rfl hn hm rfl rfl rfl
    · exact BindsTo.of_defaults rfl hdf rfl rfl rfl
  · refine bisl_body (hA.deeper _) B (fresh_size _) hkv hz cut (GF.start n k ?_ ?_) fun h' tk u k' => hQ h' tk u k'
    · intro p hp
      simp at hp
      rcases hp with rfl | rfl | rfl | rfl
      · exact ⟨_, _, rfl, ra⟩
      · exact ⟨_, _, rfl, rx⟩
      · exact ⟨_, _, rfl, .int _ _⟩
      · exact ⟨_, _, rfl, .none⟩
    · intro p hp; simp at hp; subst hp; rfl
theorem bisl3 {va vx : Value} {u : Tok} {kv : Value} {kw : List (Str × Value)} {ds : List PyData} {d : PyData} {as bs : List Addr} {lo r : Nat} {t : Nat → Bool} (hA : Room 3 A) (B : Base s.heap)
    (hkw : kw = [] ∧ kv = .none ∨ kw = [(("key" : Str), kv)])
    (ra : Rds s.heap va (.list ds) as) (rx : Rds s.heap vx d bs)
    (hkv : kv = .none ∧ (∀ i e, ds[i]? = some e → lo ≤ i → LtD e d (!t i)) ∨ kv = .ref 182 ∧ (∀ i e, ds[i]? = some e → lo ≤ i → ∃ k ks, e = .tuple (k :: ks) ∧ flat k = true ∧ LtD k d (!t i)))
    (hz : ds.length < 2 ^ 62) (cut : Cut t lo r ds.length)
    (hQ : ∀ h' tk u, Kf s.heap h' → Q (.int r u) { s with heap := h', toks := tk }) :
    wpAny (model thePr w) A (PySem.call (.ref 74) [va, vx, .int lo u] kw) Q E s := by
  obtain ⟨t0, hdf⟩ := B.dfl 66 (by simp)
  obtain ⟨m, hn, hm⟩ := B.kwd 67 (by simp)
  refine callFn (binds := [("a", va), ("x", vx), ("lo", .int lo u), ("hi", .none), ("key", kv)]) B.bisl B.lim hA.here (fun pm => ?_) (by decide) (locs rfl) fun pm h₀ n k => ?_
  · rcases hkw with ⟨rfl, rfl⟩ | rfl
    · refine BindsTo.dk2 rfl hdf rfl hn hm rfl rfl rfl
    · exact BindsTo.of_defaults rfl hdf rfl rfl rfl
  · refine bisl_body (hA.deeper _) B (fresh_size _) hkv hz cut (GF.start n k ?_ ?_) fun h' tk u k' => hQ h' tk u k'
    · intro p hp
      simp at hp
      rcases hp with rfl | rfl | rfl | rfl
      · exact ⟨_, _, rfl, ra⟩
      · exact ⟨_, _, rfl, rx⟩
      · exact ⟨_, _, rfl, .int _ _⟩
      · exact ⟨_, _, rfl, .none⟩
    · intro p hp; simp at hp; subst hp; rfl
theorem bisl2 {va vx : Value} {kv : Value} {kw : List (Str × Value)} {ds : List PyData} {d : PyData} {as bs : List Addr} {r : Nat} {t : Nat → Bool} (hA : Room 3 A) (B : Base s.heap)
    (hkw : kw = [] ∧ kv = .none ∨ kw = [(("key" : Str), kv)])
    (ra : Rds s.heap va (.list ds) as) (rx : Rds s.heap vx d bs)
    (hkv : kv = .none ∧ (∀ i e, ds[i]? = some e → 0 ≤ i → LtD e d (!t i)) ∨ kv = .ref 182 ∧ (∀ i e, ds[i]? = some e → 0 ≤ i → ∃ k ks, e = .tuple (k :: ks) ∧ flat k = true ∧ LtD k d (!t i)))
    (hz : ds.length < 2 ^ 62) (cut : Cut t 0 r ds.length)
    (hQ : ∀ h' tk u, Kf s.heap h' → Q (.int r u) { s with heap := h', toks := tk }) :
    wpAny (model thePr w) A (PySem.call (.ref 74) [va, vx] kw) Q E s := by
  obtain ⟨t0, hdf⟩ := B.dfl 66 (by simp)
  obtain ⟨m, hn, hm⟩ := B.kwd 67 (by simp)
  refine callFn (binds := [("a", va), ("x", vx), ("lo", .int 0 t0), ("hi", .none), ("key", kv)]) B.bisl B.lim hA.here (fun pm => ?_) (by decide) (locs rfl) fun pm h₀ n k => ?_
  · rcases hkw with ⟨rfl, rfl⟩ | rfl
    · refine BindsTo.dk2 rfl hdf rfl hn hm rfl rfl rfl
    · exact BindsTo.of_defaults rfl hdf rfl rfl rfl
  · refine bisl_body (hA.deeper _) B (fresh_size _) hkv hz cut (GF.start n k ?_ ?_) fun h' tk u k' => hQ h' tk u k'
    · intro p hp
      simp at hp
      rcases hp with rfl | rfl | rfl | rfl
      · exact ⟨_, _, rfl, ra⟩
      · exact ⟨_, _, rfl, rx⟩
      · exact ⟨_, _, rfl, .int _ _⟩
      · exact ⟨_, _, rfl, .none⟩
    · intro p hp; simp at hp; subst hp; rfl
end
end Mine
set_option maxRecDepth 100000
set_option linter.all false
namespace Mine
open PySem PySem.Spec PySem.Calls PyProof.Rows PySem.W
noncomputable def insAt {α : Type} (l : List α) (k : Nat) (y : α) : List α := l.take k ++ y :: l.drop k
/- all but the object at la stands -/
noncomputable def KBut (la : Addr) (h h' : Heap) : Prop := ∀ b o, b ≠ la → h.get? b = some o → h'.get? b = some o
theorem KBut.pre {la : Addr} {a b c : Heap} (x : Kf a b) (y : KBut la b c) : KBut la a c := fun p o hp e => y p o hp (x p o e)
theorem rdsAll_flatBut {D : Addr} {h h' : Heap} {vs : List Value} {ds : List PyData} {as : List Addr} (r : RdsAll h vs ds as) (f : flatAll ds = true) (hD : ∃ vs n, h.get? D = some (listO vs n)) (k : KBut D h h') : RdsAll h' vs ds as := rdsAll_flatOff r f hD k
theorem rdsAll_take' {h : Heap} {vs : List Value} {ds : List PyData} {as : List Addr} (r : RdsAll h vs ds as) (k : Nat) : ∃ bs, RdsAll h (vs.take k) (ds.take k) bs ∧ ∀ b ∈ bs, b ∈ as :=
  RdsAll.ind (C := fun vs ds as => ∀ k, ∃ bs, RdsAll h (vs.take k) (ds.take k) bs ∧ ∀ b ∈ bs, b ∈ as) (fun k => ⟨[], by rw [List.take_nil, List.take_nil]; exact .nil, fun _ h => h⟩)
    (fun v vs d ds as bs r _ q k => Nat.casesOn (motive := fun k => ∃ cs, RdsAll h ((v :: vs).take k) ((d :: ds).take k) cs ∧ ∀ b ∈ cs, b ∈ as ++ bs) k ⟨[], .nil, fun _ h => nomatch h⟩ fun k => (q k).elim fun bs x => ⟨_, .cons r x.1, fun b hb => List.mem_append.mpr ((List.mem_append.mp hb).imp_right (x.2 b))⟩) r k
theorem rdsAll_drop' {h : Heap} {vs : List Value} {ds : List PyData} {as : List Addr} (r : RdsAll h vs ds as) (k : Nat) : ∃ bs, RdsAll h (vs.drop k) (ds.drop k) bs ∧ ∀ b ∈ bs, b ∈ as :=
  RdsAll.ind (C := fun vs ds as => ∀ k, ∃ bs, RdsAll h (vs.drop k) (ds.drop k) bs ∧ ∀ b ∈ bs, b ∈ as) (fun k => ⟨[], by rw [List.drop_nil, List.drop_nil]; exact .nil, fun _ h => h⟩)
    (fun v vs d ds as bs r r' q k => Nat.casesOn (motive := fun k => ∃ cs, RdsAll h ((v :: vs).drop k) ((d :: ds).drop k) cs ∧ ∀ b ∈ cs, b ∈ as ++ bs) k ⟨_, .cons r r', fun _ h => h⟩ fun k => (q k).elim fun bs x => ⟨_, x.1, fun b hb => List.mem_append.mpr (.inr (x.2 b hb))⟩) r k
theorem nil_of_sub {bs : List Addr} (h : ∀ b ∈ bs, b ∈ ([] : List Addr)) : bs = [] := by
  cases bs with
  | nil => rfl
  | cons a l => exact absurd (h a (.head _)) (by simp)
theorem rdsAll_take {h : Heap} {vs : List Value} {ds : List PyData} (r : RdsAll h vs ds []) (k : Nat) : RdsAll h (vs.take k) (ds.take k) [] := by
  obtain ⟨bs, r, hb⟩ := rdsAll_take' r k
  rwa [nil_of_sub hb] at r
theorem rdsAll_drop {h : Heap} {vs : List Value} {ds : List PyData} (r : RdsAll h vs ds []) (k : Nat) : RdsAll h (vs.drop k) (ds.drop k) [] := by
  obtain ⟨bs, r, hb⟩ := rdsAll_drop' r k
  rwa [nil_of_sub hb] at r
theorem rdsAll_ins {h : Heap} {vs : List Value} {ds : List PyData} {v : Value} {d : PyData} (r : RdsAll h vs ds []) (rv : Rds h v d []) (k : Nat) : RdsAll h (insAt vs k v) (insAt ds k d) [] :=
  rdsAll_append (as := []) (bs := []) (rdsAll_take r k) (.cons (as := []) (bs := []) rv (rdsAll_drop r k))
theorem flatAll_append {a b : List PyData} (ha : flatAll a = true) (hb : flatAll b = true) : flatAll (a ++ b) = true := by
  rw [flatAll_iff] at *
  intro d hd
  rcases List.mem_append.mp hd with h | h
  · exact ha d h
  · exact hb d h
theorem flatAll_ins {ds : List PyData} {d : PyData} {k : Nat} (h : flatAll ds = true) (hd : flat d = true) : flatAll (insAt ds k d) = true := by
  rw [flatAll_iff] at *
  intro e he
  unfold insAt at he
  rcases List.mem_append.mp he with h' | h'
  · exact h e (List.mem_of_mem_take h')
  · rcases List.mem_cons.mp h' with rfl | h'
    · exact hd
    · exact h e (List.mem_of_mem_drop h')

section
variable {w : World} {A : Around} {env : Env} {G : Heap → Prop} {s : Shared} {E : Value → Shared → Prop} {Q : Value → Shared → Prop}
/- a method of a list at a known place -/
theorem wp_methL (hm : Mono G) {b : Bool} {x : Str} {la : Addr} {e : Expr} {es : List Expr} {name : Str} {id : String} {px apos pos : Pos} {ds : List PyData} {pl : Sem Bool} (slot : Slot "list" name id) (hty : typeOf (.builtin id) = pure (.type "method_descriptor"))
    (g : G s.heap) (hn : NV env G x (.ref la)) (hl : ∀ h, G h → ∃ items n, h.get? la = some (listO items n)) (hargs : EVs w A env G b pos (e :: es) ds)
    (hc : ∀ (s₁ : Shared) (vs : List Value) (as : List Addr), Keeps s s₁ → G s₁.heap → RdsAll s₁.heap vs ds as → wpAny (model thePr w) A (PySem.call (.builtin id) (.ref la :: vs)) Q E s₁)
    (he : autoParam (eval (.Call (.Attribute (.Name x px) name apos) (e :: es) [] pos) env = (do
      let ov ← eval (.Name x px) env
      standAt apos.atName
      let (f, first) ← holding [ov] (getMethod ov name pl)
      callWith pos f first (backTo pos (starEach (e :: es) env)) [])) byRfl)
    (hs : autoParam (starEach (e :: es) env = (false, eval e env) :: starEach es env) byRfl) (hplain : autoParam ((backTo pos (starEach es env)).any (·.1) = false) byRfl) :
    wpAny (model thePr w) A (eval (.Call (.Attribute (.Name x px) name apos) (e :: es) [] pos) env) Q E s := by
  refine MethodCall_ (pl := pl) (hn _ _ _ _ _ _ g ?_) he
  obtain ⟨items, n, ho⟩ := hl _ g
  refine getMethod_list_of slot hty ⟨_, ho, rfl, _, rfl⟩ ⟨_, ho, rfl⟩ ?_
  refine callWith_method1 (evs_go (hargs s E g) fun vs s₂ as ra k₂ => ?_) hs hplain
  exact hc s₂ vs as k₂ (hm _ _ (kf_of k₂) g) ra

theorem anyVer {h : Heap} {l : Addr} {a b : Array Value} {n : Nat} (e : PySem.IsL h l a n) (q : a = b) : ∃ n', h.get? l = some (listO b n') := ⟨n, by subst q; exact e⟩
theorem call_insert' {la : Addr} {items : Array Value} {n : Nat} {x : Int} {u : Tok} {y : Value} (ho : s.heap.get? la = some (listO items n)) (hx : 0 ≤ x) (hk : x.toNat ≤ items.size) (hsz : items.size ≤ sizeLine)
    (hQ : ∀ h', (∃ n', h'.get? la = some (listO (insAt items.toList x.toNat y).toArray n')) → KBut la s.heap h' → Q .none { s with heap := h' }) :
    wpAny (model thePr w) A (PySem.call (.builtin "list.insert") [.ref la, .int x u, y]) Q E s := by
  have hf : Builtin.List.listFitsIndex x = true := by
    have : (sizeLine : Nat) < 2 ^ 62 := by rw [show sizeLine = _ from rfl]; decide
    unfold Builtin.List.listFitsIndex
    simp
    omega
  refine call_meets PySem.F.slot_list_insert ⟨_, ho, rfl⟩ PySem.F.entry_list_insert (PySem.F.args_list_insert_3 _ _ _) (PySem.AutoSeq1.list_insert_list_int_val_1 la _ n x u y (by simp [hf]) hsz) ⟨ho, hQ _ (anyVer (PySem.IsL.update ho _) ?_) ((Heap.SameBut.update ..).extBut)⟩
  apply Array.toList_inj.mp
  show _ = insAt items.toList x.toNat y
  have : ¬ (x < 0) := by omega
  simp [this, Nat.min_eq_left hk, insAt]
  exact List.take_of_length_le (by simp)
theorem call_insert {la : Addr} {items : Array Value} {n k : Nat} {u : Tok} {y : Value} (ho : s.heap.get? la = some (listO items n)) (hk : k ≤ items.size) (hsz : items.size ≤ sizeLine)
    (hQ : ∀ h', (∃ n', h'.get? la = some (listO (insAt items.toList k y).toArray n')) → KBut la s.heap h' → Q .none { s with heap := h' }) :
    wpAny (model thePr w) A (PySem.call (.builtin "list.insert") [.ref la, .int k u, y]) Q E s :=
  call_insert' ho (by omega) (by omega) hsz (by simpa using hQ)
end
end Mine
set_option maxRecDepth 100000
set_option linter.all false
namespace Mine
open PySem PySem.Spec PySem.Calls PyProof.Rows PySem.W
section
variable {w : World} {A : Around} {env : Env} {G : Heap → Prop} {s : Shared} {E : Value → Shared → Prop} {Q : Value → Shared → Prop}
/- a call with one keyword, a name -/
theorem wp_callK (hm : Mono G) {b : Bool} {x y kn : Str} {f kv : Value} {e : Expr} {es : List Expr} {p p2 p3 pos : Pos} {ds : List PyData} (g : G s.heap) (hn : NV env G x f) (hk : KPr G f) (hargs : EVs w A env G b pos (e :: es) ds) (hkv : NV env G y kv)
    (hc : ∀ (s₁ : Shared) (vs : List Value) (as : List Addr), Keeps s s₁ → G s₁.heap → RdsAll s₁.heap vs ds as → wpAny (model thePr w) A (PySem.call f vs [(kn, kv)]) Q E s₁)
    (he : autoParam (starEach (e :: es) env = (false, eval e env) :: starEach es env) byRfl) (hplain : autoParam ((backTo pos (starEach es env)).any (·.1) = false) byRfl) :
    wpAny (model thePr w) A (eval (.Call (.Name x p) (e :: es) [⟨some kn, .Name y p2, p3⟩] pos) env) Q E s := by
  refine wpAny_Call_Name_kw (hn _ _ _ _ _ _ g ?_)
  have ha := hargs s E g
  refine callWith_of (P := G) (by rw [he]; show ((false || (backTo pos (starEach es env)).any (·.1)) || false) = false; rw [hplain]; rfl) (hk _) (evalArgs_kw2 rfl (evs_go ha fun vs s₁ as ra k₁ => ?_) he)
  have g₁ := hm _ _ (kf_of k₁) g
  refine kwAll_cons (hkv _ _ _ _ _ _ g₁ (kwAll_nil ⟨g₁, ?_⟩))
  exact hc s₁ vs as k₁ g₁ ra
/- a call by place -/
theorem KPr.base {a : Addr} {nm st dV kV c} (h : ∀ h, G h → FnAt h a nm st dV kV c) : KPr G (.ref a) := .fn fun hp g => by
  obtain ⟨⟨o, pm, ho, hd⟩, _⟩ := h hp g
  exact ⟨o, _, ho, hd⟩

/- what an insort's search goes by -/
noncomputable def SeekR (kv : Value) (ds : List PyData) (d : PyData) (r : Nat) : Prop :=
  (kv = .none ∧ ∃ t, (∀ i e, ds[i]? = some e → LtD d e (t i)) ∧ Cut t 0 r ds.length) ∨
  (kv = .ref 182 ∧ ∃ t k ks, d = .tuple (k :: ks) ∧ (∀ i e, ds[i]? = some e → ∃ k' ks', e = .tuple (k' :: ks') ∧ LtD k k' (t i)) ∧ Cut t 0 r ds.length)
noncomputable def SeekL (kv : Value) (ds : List PyData) (d : PyData) (r : Nat) : Prop :=
  (kv = .none ∧ ∃ t, (∀ i e, ds[i]? = some e → LtD e d (!t i)) ∧ Cut t 0 r ds.length) ∨
  (kv = .ref 182 ∧ ∃ t k ks, d = .tuple (k :: ks) ∧ (∀ i e, ds[i]? = some e → ∃ k' ks', e = .tuple (k' :: ks') ∧ LtD k' k (!t i)) ∧ Cut t 0 r ds.length)

theorem flat_head {k : PyData} {ks : List PyData} (h : flat (.tuple (k :: ks)) = true) : flat k = true := by
  simp only [flat, flatAll, Bool.and_eq_true] at h; exact h.1

theorem insr {la : Addr} {vx : Value} {kv : Value} {kw : List (Str × Value)} {items : Array Value} {n : Nat} {ds : List PyData} {d : PyData} {r : Nat} (hA : Room 4 A) (B : Base s.heap)
    (hkw : kw = [] ∧ kv = .none ∨ kw = [(("key" : Str), kv)])
    (ho : s.heap.get? la = some (listO items n)) (ra : RdsAll s.heap items.toList ds []) (rx : Rds s.heap vx d [])
    (hfa : flatAll ds = true) (hfd : flat d = true) (hz : ds.length ≤ sizeLine) (sk : SeekR kv ds d r)
    (hQ : ∀ h' tk items' n', h'.get? la = some (listO items' n') → RdsAll h' items'.toList (insAt ds r d) [] → KBut la s.heap h' → Q .none { s with heap := h', toks := tk }) :
    wpAny (model thePr w) A (PySem.call (.ref 47) [.ref la, vx] kw) Q E s := by
  obtain ⟨t0, hdf⟩ := B.dfl 39 (by simp)
  obtain ⟨m, hn, hm⟩ := B.kwd 40 (by simp)
  have hsl : sizeLine < 2 ^ 62 := by decide
  have hsz : items.size = ds.length := by have := readsAll_length ra; rwa [Array.length_toList] at this
  have hrn : r ≤ ds.length := by rcases sk with ⟨_, t, _, c⟩ | ⟨_, t, _, _, _, _, c⟩ <;> exact c.2.1
  refine callFn (binds := [("a", .ref la), ("x", vx), ("lo", .int 0 t0), ("hi", .none), ("key", kv)]) B.insr B.lim hA.here (fun pm => ?_) (by decide) (locs rfl) fun pm h₀ n' k => ?_
  · rcases hkw with ⟨rfl, rfl⟩ | rfl
    · exact BindsTo.dk2 rfl hdf rfl hn hm rfl rfl rfl
    · exact BindsTo.of_defaults rfl hdf rfl rfl rfl
  have hA' := hA.deeper (callEnv (fdOf "insort_right" (topSt 3) (.ref 39) (.ref 40) pm 46) s.heap.objs.size 47)
  have g : GF s.heap s.heap.objs.size [("a", .list ds), ("x", d), ("lo", .int 0), ("hi", .none)] [("key", kv), ("a", .ref la)] h₀ := by
    refine GF.start n' k ?_ ?_
    · intro p hp
      simp at hp
      rcases hp with rfl | rfl | rfl | rfl
      · exact ⟨_, _, rfl, .list ho ra⟩
      · exact ⟨_, _, rfl, rx⟩
      · exact ⟨_, _, rfl, .int _ _⟩
      · exact ⟨_, _, rfl, .none⟩
    · intro p hp; simp at hp; rcases hp with rfl | rfl <;> rfl
  have hBG : ∀ bs vs h, GF s.heap s.heap.objs.size bs vs h → Base h := fun bs vs h g => B.kp (.of_keep g.1)
  have fin : ∀ h₁ tk₁, GF s.heap s.heap.objs.size (("lo", .int r) :: [("a", .list ds), ("x", d), ("lo", .int 0), ("hi", .none)]) [("key", kv), ("a", .ref la)] h₁ →
      wpAny (model thePr w) (A.deeper (callEnv (fdOf "insort_right" (topSt 3) (.ref 39) (.ref 40) pm 46) s.heap.objs.size 47)) (execs ((dBody (topSt 3)).drop 1) (callEnv (fdOf "insort_right" (topSt 3) (.ref 39) (.ref 40) pm 46) s.heap.objs.size 47))
        (fun f s' => Q (match f with | .ret v => v | _ => .none) s') (fun _ _ => False) { s with heap := h₁, toks := tk₁ } := by
    intro h₁ tk₁ g₁
    refine wpAny_execs_cons (wpAny_Expr (wp_methL (la := la) mono_GF F.slot_list_insert F.type_list_insert g₁ (NV.loc rfl rfl rfl rfl rfl) (fun h g => ⟨items, n, g.1 _ _ ho⟩)
      (.cons mono_GF (EV.loc (d := .int r) rfl rfl rfl rfl rfl) (.cons mono_GF (EV.loc (d := d) rfl rfl rfl rfl rfl) .nil)) fun s₂ vs as k₂ g₂ rv => ?_))
    refine rds2 rv fun x1z x2z b1z b2z r1 r2 => ?_
    first | refine rdsI r1 fun _ => ?_ | refine rdsS r1 fun _ => ?_ | refine rdsB r1 ?_ | refine rdsN r1 ?_
    have := rds_flat r2 hfd
    subst this
    obtain ⟨h₂, tk₂, rfl, k₂⟩ := k₂
    refine call_insert (g₂.1 _ _ ho) (by omega) (by omega) fun h₃ hl k₃ => wpAny_execs_nil ?_
    obtain ⟨n₃, hl⟩ := hl
    refine hQ h₃ tk₂ _ _ hl ?_ (KBut.pre g₂.1 k₃)
    have q := rdsAll_ins (rdsAll_kp (.of_keep g₂.1) ra) r2 r
    exact rdsAll_flatBut (D := la) q (flatAll_ins hfa hfd) ⟨_, _, g₂.1 _ _ ho⟩ k₃
  rcases sk with ⟨rfl, t, ht, cut⟩ | ⟨rfl, t, kk, ks, rfl, ht, cut⟩
  · refine st_if (b := true) g mono_GF (TV.isNoneV mono_GF (NV.loc (v := .none) rfl rfl rfl rfl rfl) rfl) fun s₁ g₁ k₁ => ?_
    obtain ⟨h₁, tk₁, rfl, k₁⟩ := k₁
    refine st_assign (d := .int r) (f := true) g₁ (fresh_size _) ?_ rfl rfl rfl rfl rfl fun h₂ tk₂ g₂ => wpAny_execs_nil (fin _ _ g₂)
    exact .call mono_GF (NV.glob (hBG _ _) rfl rfl rfl rfl rfl) (KPr.base fun h g => (hBG _ _ h g).bisr) (.cons mono_GF (EV.loc (d := .list ds) rfl rfl rfl rfl rfl) (.cons mono_GF (EV.loc (d := d) rfl rfl rfl rfl rfl) (.cons mono_GF (EV.loc (d := .int 0) rfl rfl rfl rfl rfl) (.cons mono_GF (EV.loc (d := .none) rfl rfl rfl rfl rfl) .nil)))) fun s₂ E₂ vs as g₂ rv => by
      refine rds4 rv fun x1z x2z x3z x4z b1z b2z b3z b4z r1 r2 r3 r4 => ?_
      first | refine rdsI r3 fun _ => ?_ | refine rdsS r3 fun _ => ?_ | refine rdsB r3 ?_ | refine rdsN r3 ?_
      first | refine rdsI r4 fun _ => ?_ | refine rdsS r4 fun _ => ?_ | refine rdsB r4 ?_ | refine rdsN r4 ?_
      exact bisr4 (lo := 0) hA' (hBG _ _ _ g₂) (.inl ⟨rfl, rfl⟩) r1 r2 (.inl ⟨rfl, fun i e he _ => ht i e he⟩) (by omega) cut fun h' tk u k' => ⟨⟨[], .int _ _, fun _ h => nomatch h⟩, h', tk, rfl, k'⟩
  · refine st_if (b := false) g mono_GF (TV.isNoneV mono_GF (NV.loc (v := .ref 182) rfl rfl rfl rfl rfl) rfl) fun s₁ g₁ k₁ => ?_
    obtain ⟨h₁, tk₁, rfl, k₁⟩ := k₁
    refine st_assign (d := .int r) (f := true) g₁ (fresh_size _) ?_ rfl rfl rfl rfl rfl fun h₂ tk₂ g₂ => wpAny_execs_nil (fin _ _ g₂)
    intro s₂ E₂ g₂
    refine wp_callK mono_GF g₂ (NV.glob (hBG _ _) rfl rfl rfl rfl rfl) (KPr.base fun h g => (hBG _ _ h g).bisr) (EVs.weak (f := false) (.cons mono_GF (EV.loc (d := .list ds) rfl rfl rfl rfl rfl) (.cons mono_GF (EV.weak (EV.first mono_GF (hA'.le (by omega)) (hBG _ _) (NV.loc rfl rfl rfl rfl rfl) (EV.loc (d := .tuple (kk :: ks)) rfl rfl rfl rfl rfl) (flat_head hfd))) (.cons mono_GF (EV.loc (d := .int 0) rfl rfl rfl rfl rfl) (.cons mono_GF (EV.loc (d := .none) rfl rfl rfl rfl rfl) .nil))))) (NV.loc (v := .ref 182) rfl rfl rfl rfl rfl) fun s₃ vs as k₃ g₃ rv => ?_
    refine rds4 rv fun x1z x2z x3z x4z b1z b2z b3z b4z r1 r2 r3 r4 => ?_
    first | refine rdsI r3 fun _ => ?_ | refine rdsS r3 fun _ => ?_ | refine rdsB r3 ?_ | refine rdsN r3 ?_
    first | refine rdsI r4 fun _ => ?_ | refine rdsS r4 fun _ => ?_ | refine rdsB r4 ?_ | refine rdsN r4 ?_
    refine bisr4 (lo := 0) hA' (hBG _ _ _ g₃) (.inr rfl) r1 r2 (.inr ⟨rfl, fun i e he _ => ?_⟩) (by omega) cut fun h' tk u k' => ⟨⟨[], .int _ _, fun _ _ h => nomatch h⟩, keeps_trans k₃ ⟨h', tk, rfl, k'⟩⟩
    obtain ⟨k', ks', rfl, hlt⟩ := ht i e he
    exact ⟨k', ks', rfl, flat_head (flatAll_iff.mp hfa _ (List.mem_of_getElem? he)), hlt⟩
theorem insl {la : Addr} {vx : Value} {kv : Value} {kw : List (Str × Value)} {items : Array Value} {n : Nat} {ds : List PyData} {d : PyData} {r : Nat} (hA : Room 4 A) (B : Base s.heap)
    (hkw : kw = [] ∧ kv = .none ∨ kw = [(("key" : Str), kv)])
    (ho : s.heap.get? la = some (listO items n)) (ra : RdsAll s.heap items.toList ds []) (rx : Rds s.heap vx d [])
    (hfa : flatAll ds = true) (hfd : flat d = true) (hz : ds.length ≤ sizeLine) (sk : SeekL kv ds d r)
    (hQ : ∀ h' tk items' n', h'.get? la = some (listO items' n') → RdsAll h' items'.toList (insAt ds r d) [] → KBut la s.heap h' → Q .none { s with heap := h', toks := tk }) :
    wpAny (model thePr w) A (PySem.call (.ref 65) [.ref la, vx] kw) Q E s := by
  obtain ⟨t0, hdf⟩ := B.dfl 57 (by simp)
  obtain ⟨m, hn, hm⟩ := B.kwd 58 (by simp)
  have hsl : sizeLine < 2 ^ 62 := by decide
  have hsz : items.size = ds.length := by have := readsAll_length ra; rwa [Array.length_toList] at this
  have hrn : r ≤ ds.length := by rcases sk with ⟨_, t, _, c⟩ | ⟨_, t, _, _, _, _, c⟩ <;> exact c.2.1
  refine callFn (binds := [("a", .ref la), ("x", vx), ("lo", .int 0 t0), ("hi", .none), ("key", kv)]) B.insl B.lim hA.here (fun pm => ?_) (by decide) (locs rfl) fun pm h₀ n' k => ?_
  · rcases hkw with ⟨rfl, rfl⟩ | rfl
    · exact BindsTo.dk2 rfl hdf rfl hn hm rfl rfl rfl
    · exact BindsTo.of_defaults rfl hdf rfl rfl rfl
  have hA' := hA.deeper (callEnv (fdOf "insort_left" (topSt 5) (.ref 57) (.ref 58) pm 64) s.heap.objs.size 65)
  have g : GF s.heap s.heap.objs.size [("a", .list ds), ("x", d), ("lo", .int 0), ("hi", .none)] [("key", kv), ("a", .ref la)] h₀ := by
    refine GF.start n' k ?_ ?_
    · intro p hp
      simp at hp
      rcases hp with rfl | rfl | rfl | rfl
      · exact ⟨_, _, rfl, .list ho ra⟩
      · exact ⟨_, _, rfl, rx⟩
      · exact ⟨_, _, rfl, .int _ _⟩
      · exact ⟨_, _, rfl, .none⟩
    · intro p hp; simp at hp; rcases hp with rfl | rfl <;> rfl
  have hBG : ∀ bs vs h, GF s.heap s.heap.objs.size bs vs h → Base h := fun bs vs h g => B.kp (.of_keep g.1)
  have fin : ∀ h₁ tk₁, GF s.heap s.heap.objs.size (("lo", .int r) :: [("a", .list ds), ("x", d), ("lo", .int 0), ("hi", .none)]) [("key", kv), ("a", .ref la)] h₁ →
      wpAny (model thePr w) (A.deeper (callEnv (fdOf "insort_left" (topSt 5) (.ref 57) (.ref 58) pm 64) s.heap.objs.size 65)) (execs ((dBody (topSt 5)).drop 1) (callEnv (fdOf "insort_left" (topSt 5) (.ref 57) (.ref 58) pm 64) s.heap.objs.size 65))
        (fun f s' => Q (match f with | .ret v => v | _ => .none) s') (fun _ _ => False) { s with heap := h₁, toks := tk₁ } := by
    intro h₁ tk₁ g₁
    refine wpAny_execs_cons (wpAny_Expr (wp_methL (la := la) mono_GF F.slot_list_insert F.type_list_insert g₁ (NV.loc rfl rfl rfl rfl rfl) (fun h g => ⟨items, n, g.1 _ _ ho⟩)
      (.cons mono_GF (EV.loc (d := .int r) rfl rfl rfl rfl rfl) (.cons mono_GF (EV.loc (d := d) rfl rfl rfl rfl rfl) .nil)) fun s₂ vs as k₂ g₂ rv => ?_))
    refine rds2 rv fun x1z x2z b1z b2z r1 r2 => ?_
    first | refine rdsI r1 fun _ => ?_ | refine rdsS r1 fun _ => ?_ | refine rdsB r1 ?_ | refine rdsN r1 ?_
    have := rds_flat r2 hfd
    subst this
    obtain ⟨h₂, tk₂, rfl, k₂⟩ := k₂
    refine call_insert (g₂.1 _ _ ho) (by omega) (by omega) fun h₃ hl k₃ => wpAny_execs_nil ?_
    obtain ⟨n₃, hl⟩ := hl
    refine hQ h₃ tk₂ _ _ hl ?_ (KBut.pre g₂.1 k₃)
    have q := rdsAll_ins (rdsAll_kp (.of_keep g₂.1) ra) r2 r
    exact rdsAll_flatBut (D := la) q (flatAll_ins hfa hfd) ⟨_, _, g₂.1 _ _ ho⟩ k₃
  rcases sk with ⟨rfl, t, ht, cut⟩ | ⟨rfl, t, kk, ks, rfl, ht, cut⟩
  · refine st_if (b := true) g mono_GF (TV.isNoneV mono_GF (NV.loc (v := .none) rfl rfl rfl rfl rfl) rfl) fun s₁ g₁ k₁ => ?_
    obtain ⟨h₁, tk₁, rfl, k₁⟩ := k₁
    refine st_assign (d := .int r) (f := true) g₁ (fresh_size _) ?_ rfl rfl rfl rfl rfl fun h₂ tk₂ g₂ => wpAny_execs_nil (fin _ _ g₂)
    exact .call mono_GF (NV.glob (hBG _ _) rfl rfl rfl rfl rfl) (KPr.base fun h g => (hBG _ _ h g).bisl) (.cons mono_GF (EV.loc (d := .list ds) rfl rfl rfl rfl rfl) (.cons mono_GF (EV.loc (d := d) rfl rfl rfl rfl rfl) (.cons mono_GF (EV.loc (d := .int 0) rfl rfl rfl rfl rfl) (.cons mono_GF (EV.loc (d := .none) rfl rfl rfl rfl rfl) .nil)))) fun s₂ E₂ vs as g₂ rv => by
      refine rds4 rv fun x1z x2z x3z x4z b1z b2z b3z b4z r1 r2 r3 r4 => ?_
      first | refine rdsI r3 fun _ => ?_ | refine rdsS r3 fun _ => ?_ | refine rdsB r3 ?_ | refine rdsN r3 ?_
      first | refine rdsI r4 fun _ => ?_ | refine rdsS r4 fun _ => ?_ | refine rdsB r4 ?_ | refine rdsN r4 ?_
      exact bisl4 (lo := 0) hA' (hBG _ _ _ g₂) (.inl ⟨rfl, rfl⟩) r1 r2 (.inl ⟨rfl, fun i e he _ => ht i e he⟩) (by omega) cut fun h' tk u k' => ⟨⟨[], .int _ _, fun _ h => nomatch h⟩, h', tk, rfl, k'⟩
  · refine st_if (b := false) g mono_GF (TV.isNoneV mono_GF (NV.loc (v := .ref 182) rfl rfl rfl rfl rfl) rfl) fun s₁ g₁ k₁ => ?_
    obtain ⟨h₁, tk₁, rfl, k₁⟩ := k₁
    refine st_assign (d := .int r) (f := true) g₁ (fresh_size _) ?_ rfl rfl rfl rfl rfl fun h₂ tk₂ g₂ => wpAny_execs_nil (fin _ _ g₂)
    intro s₂ E₂ g₂
    refine wp_callK mono_GF g₂ (NV.glob (hBG _ _) rfl rfl rfl rfl rfl) (KPr.base fun h g => (hBG _ _ h g).bisl) (EVs.weak (f := false) (.cons mono_GF (EV.loc (d := .list ds) rfl rfl rfl rfl rfl) (.cons mono_GF (EV.weak (EV.first mono_GF (hA'.le (by omega)) (hBG _ _) (NV.loc rfl rfl rfl rfl rfl) (EV.loc (d := .tuple (kk :: ks)) rfl rfl rfl rfl rfl) (flat_head hfd))) (.cons mono_GF (EV.loc (d := .int 0) rfl rfl rfl rfl rfl) (.cons mono_GF (EV.loc (d := .none) rfl rfl rfl rfl rfl) .nil))))) (NV.loc (v := .ref 182) rfl rfl rfl rfl rfl) fun s₃ vs as k₃ g₃ rv => ?_
    refine rds4 rv fun x1z x2z x3z x4z b1z b2z b3z b4z r1 r2 r3 r4 => ?_
    first | refine rdsI r3 fun _ => ?_ | refine rdsS r3 fun _ => ?_ | refine rdsB r3 ?_ | refine rdsN r3 ?_
    first | refine rdsI r4 fun _ => ?_ | refine rdsS r4 fun _ => ?_ | refine rdsB r4 ?_ | refine rdsN r4 ?_
    refine bisl4 (lo := 0) hA' (hBG _ _ _ g₃) (.inr rfl) r1 r2 (.inr ⟨rfl, fun i e he _ => ?_⟩) (by omega) cut fun h' tk u k' => ⟨⟨[], .int _ _, fun _ _ h => nomatch h⟩, keeps_trans k₃ ⟨h', tk, rfl, k'⟩⟩
    obtain ⟨k', ks', rfl, hlt⟩ := ht i e he
    exact ⟨k', ks', rfl, flat_head (flatAll_iff.mp hfa _ (List.mem_of_getElem? he)), hlt⟩
end
end Mine
set_option maxRecDepth 100000
set_option linter.all false
namespace Mine
open PySem PySem.Spec PySem.Calls PyProof.Rows PySem.W

noncomputable def erase (h : Heap) (a : Addr) : Heap := h.update a fun o => { o with data := .freed }
theorem erase_ne {h : Heap} {a b : Addr} (hne : b ≠ a) : (erase h a).get? b = h.get? b := Heap.get?_update_other _ _ (Ne.symm hne)
theorem erase_self (h : Heap) (a : Addr) : (erase h a).get? a = none := by
  obtain ⟨objs, l⟩ := h
  unfold erase Heap.update Heap.get?
  simp only [Array.getElem?_modify, if_true]
  cases objs[a]? with
  | none => rfl
  | some o => rfl
theorem erase_some {h : Heap} {a b : Addr} {o : Obj} (e : (erase h a).get? b = some o) : h.get? b = some o := by
  by_cases hb : b = a
  · subst hb; rw [erase_self] at e; cases e
  · rwa [erase_ne hb] at e
theorem erase_stays (h : Heap) (a : Addr) : (erase h a).StaysIn h := fun b o e => erase_some e
section
variable {w : World} {A : Around} {env : Env} {G : Heap → Prop} {s : Shared} {E : Value → Shared → Prop} {Q : Value → Shared → Prop}
theorem callFnE {a c : Addr} {nm : Str} {st : Stmt} {dV kV : Value} {args : List Value} {kw : List (Str × Value)} {binds : List (Str × Value)} (F : FnAt s.heap a nm st dV kV c) (lim : s.heap.NoLimit) (hroom : A.depth < recursionLimit)
    (hbind : ∀ pm, BindsTo s (fdOf nm st dV kV pm c) ⟨args, kw⟩ binds) (hcell : ∀ x ∈ (dScope st).names, x.2 ≠ .cell) (hloc : ∀ x ∈ binds, (dScope st).names.lookup x.1 = some .local)
    (body : ∀ pm h₀, h₀.Ns s.heap.objs.size (fun x => binds.reverse.lookup x) → Kf s.heap h₀ →
      wpAny (model thePr w) (A.deeper (callEnv (fdOf nm st dV kV pm c) s.heap.objs.size a)) (execs (dBody st) (callEnv (fdOf nm st dV kV pm c) s.heap.objs.size a)) (fun f s' => Q (match f with | .ret v => v | _ => .none) s')
        (fun e s' => wpAny (model thePr w) (A.deeper (callEnv (fdOf nm st dV kV pm c) s.heap.objs.size a)) (leaving (callEnv (fdOf nm st dV kV pm c) s.heap.objs.size a) e) (fun _ s'' => E e s'') E s') { s with heap := h₀, toks := s.toks + binds.length })
    (hco : autoParam ((dScope st).isCoroutine = false) byRfl) (hgen : autoParam ((dScope st).isGenerator = false) byRfl) (hk : autoParam ((dScope st).kind = .function) byRfl) :
    wpAny (model thePr w) A (PySem.call (.ref a) args kw) Q E s := by
  obtain ⟨⟨o, pm, ho, hd⟩, hc⟩ := F
  exact wpAny_call (codeAny_call_def hroom ho hd lim hc.rec' rfl (hbind pm) hcell hloc (fun h₀ n k => body pm h₀ n k) hco hgen hk)

/- a ValueError on its way -/
noncomputable def Flies (base : Heap) (outer : List Env) (s : Shared) (v : Value) (s' : Shared) : Prop :=
  ∃ e t u h' tk, v = .ref e ∧ s' = { s with heap := h', toks := tk } ∧ Heap.FlyingW base outer e (.type "ValueError") (.ref t) h' ∧ h'.TupAt t [.str "lo must be non-negative" u] ∧ base.get? t = none ∧ s.heap.UpToSlots h'

theorem funFrames_kf {h h' base : Heap} {l : List Env} (k : Kf h h') (x : h.FunFrames base l) : h'.FunFrames base l := x.of_keeps fun b o e _ => ⟨o, k b o e, rfl⟩
theorem fresh_base {base h : Heap} (hb : base.StaysIn h) {a : Addr} (ha : h.get? a = none) : base.get? a = none := by
  cases e : base.get? a with
  | none => rfl
  | some o => rw [hb _ _ e] at ha; cases ha

theorem bisr_raises {base : Heap} {outer : List Env} {va vx : Value} {u : Tok} {lo : Int} {ds : List PyData} {d : PyData} {as bs : List Addr} (hA : Room 3 A) (B : Base s.heap) (hlo : lo < 0) (hfr : A.frames = some outer) (hff : s.heap.FunFrames base outer) (hb : base.StaysIn s.heap)
    (ra : Rds s.heap va (.list ds) as) (rx : Rds s.heap vx d bs) :
    wpAny (model thePr w) A (PySem.call (.ref 56) [va, vx, .int lo u, .none] [(("key" : Str), .ref 182)]) Q (Flies base outer s) s := by
  obtain ⟨t0, hdf⟩ := B.dfl 48 (by simp)
  refine callFnE (binds := [("a", va), ("x", vx), ("lo", .int lo u), ("hi", .none), ("key", .ref 182)]) B.bisr B.lim hA.here (fun pm => ?_) (by decide) (locs rfl) fun pm h₀ n k => ?_
  · exact BindsTo.of_defaults rfl hdf rfl rfl rfl
  · have g : GF s.heap s.heap.objs.size [("lo", .int lo)] [] h₀ := by
      refine GF.start n k ?_ ?_
      · intro p hp
        simp at hp
        subst hp
        exact ⟨_, _, rfl, .int _ _⟩
      · intro p hp; simp at hp
    have hBG : ∀ bs vs h, GF s.heap s.heap.objs.size bs vs h → Base h := fun bs vs h g => B.kp (.of_keep g.1)
    refine st_if (b := decide (lo < 0)) g mono_GF (TV.lt mono_GF (EV.loc rfl rfl rfl rfl rfl) EV.int) fun s₁ g₁ k₁ => ?_
    rw [decide_eq_true hlo]
    obtain ⟨h₁, tk₁, rfl, k₁⟩ := k₁
    refine wpAny_execs_cons (wpAny_Raise_call PySem.F.excCall_ValueError PySem.F.excRaise_ValueError hA.handled rfl (NV.built (hBG _ _) rfl rfl rfl rfl rfl rfl _ _ _ _ _ _ g₁ ⟨rfl, ?_⟩))
    refine evalArgs_plain (evs_goK (EVs.cons (f := true) mono_GF EV.str .nil rfl _ _ g₁) fun vs as' h₂ tk₂ rv k₂ => ?_)
    refine rds1 rv fun x1z b1z r1 => ?_
    first | refine rdsI r1 fun _ => ?_ | refine rdsS r1 fun _ => ?_ | refine rdsB r1 ?_ | refine rdsN r1 ?_
    refine ⟨rfl, (show 1 ≤ sizeLine by decide), fun h₃ e hx => ?_⟩
    refine wpAny_leaves_madeW (base := base) (h := h₂) (outer := outer) (cls := .type "ValueError") (args := [.str "lo must be non-negative" _]) (by show A.frames.map _ = _; rw [hfr]; rfl) rfl (fun b o e => k₂ _ _ (g₁.1 _ _ (hb _ _ e))) ?_ ⟨hx.keeps, hx.new, hx.there⟩ fun h' t hfl ht htn hup => ?_
    · refine ⟨(show ScopeKind.function ≠ ScopeKind.module by decide), ⟨s.heap.objs.size, ?_⟩, funFrames_kf (g₁.1.trans k₂) hff⟩
      obtain ⟨m, ns, _⟩ := g₁.2
      obtain ⟨o, es, ep, ho, hd, _⟩ := ns_kp (.of_keep k₂) ns
      exact ⟨o, rfl, fresh_base hb (fresh_size _), ho, fun vs q => by rw [hd] at q; cases q⟩
    · refine ⟨e, t, _, h', _, rfl, rfl, hfl, ht, htn, ?_⟩
      exact ((Heap.UpToSlots.of_keeps (g₁.1.trans k₂)).trans (Heap.UpToSlots.of_keeps hx.keeps)).trans hup
theorem bisl_raises {base : Heap} {outer : List Env} {va vx : Value} {u : Tok} {lo : Int} {ds : List PyData} {d : PyData} {as bs : List Addr} (hA : Room 3 A) (B : Base s.heap) (hlo : lo < 0) (hfr : A.frames = some outer) (hff : s.heap.FunFrames base outer) (hb : base.StaysIn s.heap)
    (ra : Rds s.heap va (.list ds) as) (rx : Rds s.heap vx d bs) :
    wpAny (model thePr w) A (PySem.call (.ref 74) [va, vx, .int lo u, .none] [(("key" : Str), .ref 182)]) Q (Flies base outer s) s := by
  obtain ⟨t0, hdf⟩ := B.dfl 66 (by simp)
  refine callFnE (binds := [("a", va), ("x", vx), ("lo", .int lo u), ("hi", .none), ("key", .ref 182)]) B.bisl B.lim hA.here (fun pm => ?_) (by decide) (locs rfl) fun pm h₀ n k => ?_
  · exact BindsTo.of_defaults rfl hdf rfl rfl rfl
  · have g : GF s.heap s.heap.objs.size [("lo", .int lo)] [] h₀ := by
      refine GF.start n k ?_ ?_
      · intro p hp
        simp at hp
        subst hp
        exact ⟨_, _, rfl, .int _ _⟩
      · intro p hp; simp at hp
    have hBG : ∀ bs vs h, GF s.heap s.heap.objs.size bs vs h → Base h := fun bs vs h g => B.kp (.of_keep g.1)
    refine st_if (b := decide (lo < 0)) g mono_GF (TV.lt mono_GF (EV.loc rfl rfl rfl rfl rfl) EV.int) fun s₁ g₁ k₁ => ?_
    rw [decide_eq_true hlo]
    obtain ⟨h₁, tk₁, rfl, k₁⟩ := k₁
    refine wpAny_execs_cons (wpAny_Raise_call PySem.F.excCall_ValueError PySem.F.excRaise_ValueError hA.handled rfl (NV.built (hBG _ _) rfl rfl rfl rfl rfl rfl _ _ _ _ _ _ g₁ ⟨rfl, ?_⟩))
    refine evalArgs_plain (evs_goK (EVs.cons (f := true) mono_GF EV.str .nil rfl _ _ g₁) fun vs as' h₂ tk₂ rv k₂ => ?_)
    refine rds1 rv fun x1z b1z r1 => ?_
    first | refine rdsI r1 fun _ => ?_ | refine rdsS r1 fun _ => ?_ | refine rdsB r1 ?_ | refine rdsN r1 ?_
    refine ⟨rfl, (show 1 ≤ sizeLine by decide), fun h₃ e hx => ?_⟩
    refine wpAny_leaves_madeW (base := base) (h := h₂) (outer := outer) (cls := .type "ValueError") (args := [.str "lo must be non-negative" _]) (by show A.frames.map _ = _; rw [hfr]; rfl) rfl (fun b o e => k₂ _ _ (g₁.1 _ _ (hb _ _ e))) ?_ ⟨hx.keeps, hx.new, hx.there⟩ fun h' t hfl ht htn hup => ?_
    · refine ⟨(show ScopeKind.function ≠ ScopeKind.module by decide), ⟨s.heap.objs.size, ?_⟩, funFrames_kf (g₁.1.trans k₂) hff⟩
      obtain ⟨m, ns, _⟩ := g₁.2
      obtain ⟨o, es, ep, ho, hd, _⟩ := ns_kp (.of_keep k₂) ns
      exact ⟨o, rfl, fresh_base hb (fresh_size _), ho, fun vs q => by rw [hd] at q; cases q⟩
    · refine ⟨e, t, _, h', _, rfl, rfl, hfl, ht, htn, ?_⟩
      exact ((Heap.UpToSlots.of_keeps (g₁.1.trans k₂)).trans (Heap.UpToSlots.of_keeps hx.keeps)).trans hup

theorem insr_raises {base : Heap} {outer : List Env} {va vx : Value} {u : Tok} {lo : Int} {ds : List PyData} {k0 : PyData} {ks : List PyData} {as bs : List Addr} (hA : Room 4 A) (B : Base s.heap) (hlo : lo < 0) (hfr : A.frames = some outer) (hff : s.heap.FunFrames base outer) (hb : base.StaysIn s.heap)
    (ra : Rds s.heap va (.list ds) as) (rx : Rds s.heap vx (.tuple (k0 :: ks)) bs) (hf : flat k0 = true) :
    wpAny (model thePr w) A (PySem.call (.ref 47) [va, vx, .int lo u] [(("key" : Str), .ref 182)]) Q (Flies base outer s) s := by
  obtain ⟨t0, hdf⟩ := B.dfl 39 (by simp)
  refine callFnE (binds := [("a", va), ("x", vx), ("lo", .int lo u), ("hi", .none), ("key", .ref 182)]) B.insr B.lim hA.here (fun pm => ?_) (by decide) (locs rfl) fun pm h₀ n k => ?_
  · exact BindsTo.of_defaults rfl hdf rfl rfl rfl
  have hA' := hA.deeper (callEnv (fdOf "insort_right" (topSt 3) (.ref 39) (.ref 40) pm 46) s.heap.objs.size 47)
  have g : GF s.heap s.heap.objs.size [("a", .list ds), ("x", .tuple (k0 :: ks)), ("lo", .int lo), ("hi", .none)] [("key", .ref 182)] h₀ := by
    refine GF.start n k ?_ ?_
    · intro p hp
      simp at hp
      rcases hp with rfl | rfl | rfl | rfl
      · exact ⟨_, _, rfl, ra⟩
      · exact ⟨_, _, rfl, rx⟩
      · exact ⟨_, _, rfl, .int _ _⟩
      · exact ⟨_, _, rfl, .none⟩
    · intro p hp; simp at hp; subst hp; rfl
  have hBG : ∀ bs vs h, GF s.heap s.heap.objs.size bs vs h → Base h := fun bs vs h g => B.kp (.of_keep g.1)
  refine st_if (b := false) g mono_GF (TV.isNoneV mono_GF (NV.loc (v := .ref 182) rfl rfl rfl rfl rfl) rfl) fun s₁ g₁ k₁ => ?_
  obtain ⟨h₁, tk₁, rfl, k₁⟩ := k₁
  refine wpAny_execs_cons (wpAny_Assign_Name ?_ rfl)
  refine wp_callK mono_GF g₁ (NV.glob (hBG _ _) rfl rfl rfl rfl rfl) (KPr.base fun h g => (hBG _ _ h g).bisr) (EVs.weak (f := false) (.cons mono_GF (EV.loc (d := .list ds) rfl rfl rfl rfl rfl) (.cons mono_GF (EV.weak (EV.first mono_GF (hA'.le (by omega)) (hBG _ _) (NV.loc rfl rfl rfl rfl rfl) (EV.loc (d := .tuple (k0 :: ks)) rfl rfl rfl rfl rfl) hf)) (.cons mono_GF (EV.loc (d := .int lo) rfl rfl rfl rfl rfl) (.cons mono_GF (EV.loc (d := .none) rfl rfl rfl rfl rfl) .nil))))) (NV.loc (v := .ref 182) rfl rfl rfl rfl rfl) fun s₃ vs as k₃ g₃ rv => ?_
  refine rds4 rv fun x1z x2z x3z x4z b1z b2z b3z b4z r1 r2 r3 r4 => ?_
  first | refine rdsI r3 fun _ => ?_ | refine rdsS r3 fun _ => ?_ | refine rdsB r3 ?_ | refine rdsN r3 ?_
  first | refine rdsI r4 fun _ => ?_ | refine rdsS r4 fun _ => ?_ | refine rdsB r4 ?_ | refine rdsN r4 ?_
  obtain ⟨h₃, tk₃, rfl, k₃⟩ := k₃
  have ff3 : h₃.FunFrames base (callEnv (fdOf "insort_right" (topSt 3) (.ref 39) (.ref 40) pm 46) s.heap.objs.size 47 :: outer) := by
    refine ⟨(show ScopeKind.function ≠ ScopeKind.module by decide), ⟨s.heap.objs.size, ?_⟩, funFrames_kf g₃.1 hff⟩
    obtain ⟨m, ns, _⟩ := g₃.2
    obtain ⟨o, es, ep, ho, hd, _⟩ := ns
    exact ⟨o, rfl, fresh_base hb (fresh_size _), ho, fun vs q => by rw [hd] at q; cases q⟩
  refine wpAny_mono (bisr_raises (Q := fun _ _ => False) (base := base) (outer := callEnv (fdOf "insort_right" (topSt 3) (.ref 39) (.ref 40) pm 46) s.heap.objs.size 47 :: outer) hA' (hBG _ _ _ g₃) hlo (by show A.frames.map _ = _; rw [hfr]; rfl) ff3 (fun b o e => g₃.1 _ _ (hb _ _ e)) r1 r2) (fun _ _ x => x.elim) ?_
  · rintro v s' ⟨e, t, u', h', tk', rfl, rfl, hfl, ht, htn, hup⟩
    refine wpAny_leaves_onW (by show A.frames.map _ = _; rw [hfr]; rfl) rfl hfl fun h'' hfl' hup' => ?_
    exact ⟨e, t, _, h'', _, rfl, rfl, hfl', ht.of_slots hup', htn, ((Heap.UpToSlots.of_keeps g₃.1).trans hup).trans hup'⟩
theorem insl_raises {base : Heap} {outer : List Env} {va vx : Value} {u : Tok} {lo : Int} {ds : List PyData} {k0 : PyData} {ks : List PyData} {as bs : List Addr} (hA : Room 4 A) (B : Base s.heap) (hlo : lo < 0) (hfr : A.frames = some outer) (hff : s.heap.FunFrames base outer) (hb : base.StaysIn s.heap)
    (ra : Rds s.heap va (.list ds) as) (rx : Rds s.heap vx (.tuple (k0 :: ks)) bs) (hf : flat k0 = true) :
    wpAny (model thePr w) A (PySem.call (.ref 65) [va, vx, .int lo u] [(("key" : Str), .ref 182)]) Q (Flies base outer s) s := by
  obtain ⟨t0, hdf⟩ := B.dfl 57 (by simp)
  refine callFnE (binds := [("a", va), ("x", vx), ("lo", .int lo u), ("hi", .none), ("key", .ref 182)]) B.insl B.lim hA.here (fun pm => ?_) (by decide) (locs rfl) fun pm h₀ n k => ?_
  · exact BindsTo.of_defaults rfl hdf rfl rfl rfl
  have hA' := hA.deeper (callEnv (fdOf "insort_left" (topSt 5) (.ref 57) (.ref 58) pm 64) s.heap.objs.size 65)
  have g : GF s.heap s.heap.objs.size [("a", .list ds), ("x", .tuple (k0 :: ks)), ("lo", .int lo), ("hi", .none)] [("key", .ref 182)] h₀ := by
    refine GF.start n k ?_ ?_
    · intro p hp
      simp at hp
      rcases hp with rfl | rfl | rfl | rfl
      · exact ⟨_, _, rfl, ra⟩
      · exact ⟨_, _, rfl, rx⟩
      · exact ⟨_, _, rfl, .int _ _⟩
      · exact ⟨_, _, rfl, .none⟩
    · intro p hp; simp at hp; subst hp; rfl
  have hBG : ∀ bs vs h, GF s.heap s.heap.objs.size bs vs h → Base h := fun bs vs h g => B.kp (.of_keep g.1)
  refine st_if (b := false) g mono_GF (TV.isNoneV mono_GF (NV.loc (v := .ref 182) rfl rfl rfl rfl rfl) rfl) fun s₁ g₁ k₁ => ?_
  obtain ⟨h₁, tk₁, rfl, k₁⟩ := k₁
  refine wpAny_execs_cons (wpAny_Assign_Name ?_ rfl)
  refine wp_callK mono_GF g₁ (NV.glob (hBG _ _) rfl rfl rfl rfl rfl) (KPr.base fun h g => (hBG _ _ h g).bisl) (EVs.weak (f := false) (.cons mono_GF (EV.loc (d := .list ds) rfl rfl rfl rfl rfl) (.cons mono_GF (EV.weak (EV.first mono_GF (hA'.le (by omega)) (hBG _ _) (NV.loc rfl rfl rfl rfl rfl) (EV.loc (d := .tuple (k0 :: ks)) rfl rfl rfl rfl rfl) hf)) (.cons mono_GF (EV.loc (d := .int lo) rfl rfl rfl rfl rfl) (.cons mono_GF (EV.loc (d := .none) rfl rfl rfl rfl rfl) .nil))))) (NV.loc (v := .ref 182) rfl rfl rfl rfl rfl) fun s₃ vs as k₃ g₃ rv => ?_
  refine rds4 rv fun x1z x2z x3z x4z b1z b2z b3z b4z r1 r2 r3 r4 => ?_
  first | refine rdsI r3 fun _ => ?_ | refine rdsS r3 fun _ => ?_ | refine rdsB r3 ?_ | refine rdsN r3 ?_
  first | refine rdsI r4 fun _ => ?_ | refine rdsS r4 fun _ => ?_ | refine rdsB r4 ?_ | refine rdsN r4 ?_
  obtain ⟨h₃, tk₃, rfl, k₃⟩ := k₃
  have ff3 : h₃.FunFrames base (callEnv (fdOf "insort_left" (topSt 5) (.ref 57) (.ref 58) pm 64) s.heap.objs.size 65 :: outer) := by
    refine ⟨(show ScopeKind.function ≠ ScopeKind.module by decide), ⟨s.heap.objs.size, ?_⟩, funFrames_kf g₃.1 hff⟩
    obtain ⟨m, ns, _⟩ := g₃.2
    obtain ⟨o, es, ep, ho, hd, _⟩ := ns
    exact ⟨o, rfl, fresh_base hb (fresh_size _), ho, fun vs q => by rw [hd] at q; cases q⟩
  refine wpAny_mono (bisl_raises (Q := fun _ _ => False) (base := base) (outer := callEnv (fdOf "insort_left" (topSt 5) (.ref 57) (.ref 58) pm 64) s.heap.objs.size 65 :: outer) hA' (hBG _ _ _ g₃) hlo (by show A.frames.map _ = _; rw [hfr]; rfl) ff3 (fun b o e => g₃.1 _ _ (hb _ _ e)) r1 r2) (fun _ _ x => x.elim) ?_
  · rintro v s' ⟨e, t, u', h', tk', rfl, rfl, hfl, ht, htn, hup⟩
    refine wpAny_leaves_onW (by show A.frames.map _ = _; rw [hfr]; rfl) rfl hfl fun h'' hfl' hup' => ?_
    exact ⟨e, t, _, h'', _, rfl, rfl, hfl', ht.of_slots hup', htn, ((Heap.UpToSlots.of_keeps g₃.1).trans hup).trans hup'⟩
end
end Mine
set_option maxRecDepth 100000
set_option linter.all false
namespace Mine
open PySem PySem.Spec PySem.Calls PyProof.Rows PySem.W
section
variable {w : World} {A : Around} {env : Env} {G G' : Heap → Prop} {s : Shared} {E : Value → Shared → Prop} {Q : Value → Shared → Prop}
theorem EV.imp (hi : ∀ h, G' h → G h) {f : Bool} {e : Expr} {d : PyData} (x : EV w A env G f e d) : EV w A env G' f e d := fun s E g => x s E (hi _ g)
theorem EV.cast {f : Bool} {e : Expr} {d d' : PyData} (h : d = d') (x : EV w A env G f e d) : EV w A env G f e d' := h ▸ x
theorem NV.imp (hi : ∀ h, G' h → G h) {x : Str} {v : Value} (q : NV env G x v) : NV env G' x v := fun M A pos s E Q g h => q M A pos s E Q (hi _ g) h
theorem EV.listOf (hm : Mono G) {b : Bool} {x : Str} {e : Expr} {p pos : Pos} {ds : List PyData} (hn : NV env G x (.type "list")) (he : EV w A env G b e (.list ds)) (hfl : flatAll ds = true) (hz : ds.length ≤ sizeLine)
    (hs : autoParam (starEach [e] env = (false, eval e env) :: starEach [] env) byRfl) :
    EV w A env G true (.Call (.Name x p) [e] [] pos) (.list ds) :=
  .call hm hn .type (.cons hm he .nil hs) (fun s E vs as g r => by
    refine rds1 r fun x1z b1z r => ?_
    refine rdsL r fun a vs n _ _ ho r => ?_
    have hl := readsAll_length r
    rw [Array.length_toList] at hl
    refine call_list_seq (hsz := by rw [hl]; exact hz) a (.inl rfl) ho rfl rfl fun h' c' hk hD => ?_
    have := rdsAll_flat r hfl
    subst this
    exact ⟨⟨[s.heap.objs.size], .list hD (rdsAll_kp (.of_keep hk) r), fun q hq => by simp at hq; subst hq; exact fresh_size _⟩, h', s.toks, rfl, hk⟩) hs

theorem excAt_kf {h h' : Heap} {e : Addr} {X : String} {v : Value} (k : Kf h h') (x : h.ExcAt e X v) : h'.ExcAt e X v := by
  obtain ⟨o, vs, ho, r⟩ := x
  exact ⟨o, vs, k _ _ ho, r⟩
theorem ns_upto {h h' : Heap} {a : Addr} {m} (x : h.UpToSlots h') (n : h.Ns a m) : h'.Ns a m := x.ns n

/- a call on one raw name -/
theorem wp_call1 {x y : Str} {f v : Value} {p q pos : Pos} (g : G s.heap) (hn : NV env G x f) (hk : KPr G f) (hy : NV env G y v) (hc : wpAny (model thePr w) A (PySem.call f [v]) Q E s) :
    wpAny (model thePr w) A (eval (.Call (.Name x p) [.Name y q] [] pos) env) Q E s := by
  refine wpAny_Call_Name_kw (hn _ _ _ _ _ _ g ?_)
  refine callWith_of (P := G) rfl (hk _) (evalArgs_plain ?_)
  refine spliced_cons (hy _ _ _ _ _ _ g ?_)
  exact spliced_nil ⟨g, hc⟩

/- ValueError as error: return str(error) == .. and line == ahead -/
theorem refused_ok {L : Addr} {lenv : Env} {h1 : Heap} {m : Str → Option Value} {va vm : Value} {u : Tok} {lo : Int} {late : Bool} {ds : List PyData} {k0 : PyData} {ks : List PyData} {as bs : List Addr}
    (hA : Room 5 A) (B : Base h1) (k1 : Kf h1 s.heap) (h1L : h1.get? L = none) (hlo : lo < 0) (hfr : A.frames = some [lenv]) (hkm : lenv.scope.kind ≠ .module) (hlf : lenv.frame = some L) (hn : s.heap.Ns L m)
    (ra : Rds s.heap va (.list ds) as) (rx : Rds s.heap vm (.tuple (k0 :: ks)) bs) (hf : flat k0 = true) (hfl : flatAll ds = true) (hz : ds.length ≤ sizeLine) (hsh : SeqAt.shaped (.list ds) = true)
    (hQ : ∀ h' tk, (∀ b o, b ≠ L → s.heap.get? b = some o → h'.get? b = some o) → h'.Ns L m → Q (.bool true) { s with heap := h', toks := tk }) :
    wpAny (model thePr w) A (PySem.call (.ref 196) [va, vm, .int lo u, .bool late]) Q E s := by
  have Bs : Base s.heap := B.kp (.of_keep k1)
  refine callFnE (binds := [("line", va), ("mail", vm), ("low", .int lo u), ("late", .bool late)]) Bs.rfsd Bs.lim hA.here (fun pm => .of_eq rfl) (by decide) (locs rfl) fun pm h₀ n k => ?_
  generalize hEnv : callEnv (fdOf "_law_refused" (topSt 18) .none .none pm 195) s.heap.objs.size 196 = env
  have hA' := hA.deeper env
  have hfr' : (A.deeper env).frames = some [env, lenv] := by show A.frames.map _ = _; rw [hfr]; rfl
  generalize A.deeper env = A' at hA' hfr' ⊢
  generalize hL2 : s.heap.objs.size = L2 at *
  have hnL2 : s.heap.get? L2 = none := by rw [← hL2]; exact fresh_size _
  have g : GF s.heap L2 [("line", .list ds), ("mail", .tuple (k0 :: ks)), ("low", .int lo), ("late", .bool late)] [] h₀ := by
    rw [← hL2] at n ⊢
    refine GF.start n k ?_ ?_
    · intro p hp
      simp at hp
      rcases hp with rfl | rfl | rfl | rfl
      · exact ⟨_, _, rfl, ra⟩
      · exact ⟨_, _, rfl, rx⟩
      · exact ⟨_, _, rfl, .int _ _⟩
      · exact ⟨_, _, rfl, .bool _⟩
    · intro p hp; simp at hp
  have hBG : ∀ bs vs h, GF s.heap L2 bs vs h → Base h := fun bs vs h g => Bs.kp (.of_keep g.1)
  subst hEnv
  refine st_assign (d := .list ds) g hnL2 (EV.listOf mono_GF (NV.built (hBG _ _) rfl rfl rfl rfl rfl rfl) (EV.loc rfl rfl rfl rfl rfl) hfl hz) rfl rfl rfl rfl rfl fun hT tkT gT => ?_
  have hLL2 : L ≠ L2 := fun q => by
    obtain ⟨o, _, _, ho, _⟩ := hn
    rw [q, hnL2] at ho; cases ho
  have hnT : hT.Ns L m := ns_kp (.of_keep gT.1) hn
  obtain ⟨m2, n2, rb2, rv2⟩ := id gT.2
  generalize hbase : erase (erase hT L2) L = base
  have b_stays : base.StaysIn hT := fun b o e => by rw [← hbase] at e; exact erase_some (erase_some e)
  have b_in : ∀ b o, b ≠ L → b ≠ L2 → hT.get? b = some o → base.get? b = some o := fun b o h1 h2 e => by rw [← hbase, erase_ne h1, erase_ne h2]; exact e
  have b_L : base.get? L = none := by rw [← hbase]; exact erase_self _ _
  have b_L2 : base.get? L2 = none := by rw [← hbase, erase_ne hLL2.symm]; exact erase_self _ _
  have Bb : Base base := B.kp (.of_keep fun b o e => b_in b o (by rintro rfl; rw [h1L] at e; cases e) (by rintro rfl; rw [k1 _ _ e] at hnL2; cases hnL2) (gT.1 _ _ (k1 _ _ e)))
  have rds_base : ∀ {v d as}, Rds hT v d as → Rds base v d as := fun {v d as} r => by
    refine rds_off (S := [L, L2]) ?_ (fun b o hb e => ?_) r
    · intro b hb o vs nn e q
      simp at hb
      rcases hb with rfl | rfl
      · exact ns_noseq hnT b (by simp) o vs nn e q
      · exact ns_noseq n2 b (by simp) o vs nn e q
    · simp at hb
      exact b_in b o hb.1 hb.2 e
  have ffT : hT.FunFrames base [callEnv (fdOf "_law_refused" (topSt 18) .none .none pm 195) L2 196, lenv] := by
    obtain ⟨o2, es2, ep2, ho2, hd2, _⟩ := n2
    obtain ⟨o1, es1, ep1, ho1, hd1, _⟩ := hnT
    exact ⟨(show ScopeKind.function ≠ ScopeKind.module by decide), ⟨L2, o2, rfl, b_L2, ho2, fun vs q => by rw [hd2] at q; cases q⟩, hkm, ⟨L, o1, hlf, b_L, ho1, fun vs q => by rw [hd1] at q; cases q⟩, trivial⟩
  have hBase : ∀ bs vs h, GF base L2 bs vs h → Base h := fun bs vs h g => Bb.kp (.of_keep g.1)
  refine wpAny_execs_cons (wpAny_Try_except (wpAny_mono (Q := fun _ _ => False) (E := Flies base [callEnv (fdOf "_law_refused" (topSt 18) .none .none pm 195) L2 196, lenv] { s with heap := hT, toks := tkT }) ?_ (fun _ _ x => x.elim) ?_))
  · refine st_if (b := late) gT mono_GF (TV.ofEV (EV.loc rfl rfl rfl rfl rfl)) fun s₁ g₁ k₁ => ?_
    obtain ⟨hU, tkU, rfl, k₁⟩ := k₁
    have tail : ∀ {s₂ : Shared}, Keeps { s with heap := hU, toks := tkU } s₂ → ∀ v s', Flies base [callEnv (fdOf "_law_refused" (topSt 18) .none .none pm 195) L2 196, lenv] s₂ v s' → Flies base [callEnv (fdOf "_law_refused" (topSt 18) .none .none pm 195) L2 196, lenv] { s with heap := hT, toks := tkT } v s' := by
      rintro s₂ ⟨h₂, tk₂, rfl, k₂⟩ v s' ⟨e, t, u', h', tk', rfl, rfl, hfl, ht, htn, hup⟩
      exact ⟨e, t, u', h', tk', rfl, rfl, hfl, ht, htn, (Heap.UpToSlots.of_keeps (Kf.trans k₁ k₂)).trans hup⟩
    cases late with
    | true =>
      refine wpAny_execs_cons (wpAny_Expr (wp_callK mono_GF g₁ (NV.glob (hBG _ _) rfl rfl rfl rfl rfl) (KPr.base fun h g => (hBG _ _ h g).insr) (EVs.weak (f := false) (.cons mono_GF (EV.loc (d := .list ds) rfl rfl rfl rfl rfl) (.cons mono_GF (EV.loc (d := .tuple (k0 :: ks)) rfl rfl rfl rfl rfl) (.cons mono_GF (EV.loc (d := .int lo) rfl rfl rfl rfl rfl) .nil)))) (NV.glob (v := .ref 182) (hBG _ _) rfl rfl rfl rfl rfl) fun s₂ vs as k₂ g₂ rv => ?_))
      refine rds3 rv fun x1z x2z x3z b1z b2z b3z r1 r2 r3 => ?_
      first | refine rdsI r3 fun _ => ?_ | refine rdsS r3 fun _ => ?_ | refine rdsB r3 ?_ | refine rdsN r3 ?_
      have kk := tail k₂
      obtain ⟨h₂, tk₂, rfl, k₂⟩ := k₂
      exact wpAny_mono (insr_raises (Q := fun _ _ => False) hA' (hBG _ _ _ g₂) hlo hfr' (funFrames_kf (Kf.trans k₁ k₂) ffT) (fun b o e => k₂ _ _ (k₁ _ _ (b_stays _ _ e))) r1 r2 hf) (fun _ _ x => x.elim) kk
    | false =>
      refine wpAny_execs_cons (wpAny_Expr (wp_callK mono_GF g₁ (NV.glob (hBG _ _) rfl rfl rfl rfl rfl) (KPr.base fun h g => (hBG _ _ h g).insl) (EVs.weak (f := false) (.cons mono_GF (EV.loc (d := .list ds) rfl rfl rfl rfl rfl) (.cons mono_GF (EV.loc (d := .tuple (k0 :: ks)) rfl rfl rfl rfl rfl) (.cons mono_GF (EV.loc (d := .int lo) rfl rfl rfl rfl rfl) .nil)))) (NV.glob (v := .ref 182) (hBG _ _) rfl rfl rfl rfl rfl) fun s₂ vs as k₂ g₂ rv => ?_))
      refine rds3 rv fun x1z x2z x3z b1z b2z b3z r1 r2 r3 => ?_
      first | refine rdsI r3 fun _ => ?_ | refine rdsS r3 fun _ => ?_ | refine rdsB r3 ?_ | refine rdsN r3 ?_
      have kk := tail k₂
      obtain ⟨h₂, tk₂, rfl, k₂⟩ := k₂
      exact wpAny_mono (insl_raises (Q := fun _ _ => False) hA' (hBG _ _ _ g₂) hlo hfr' (funFrames_kf (Kf.trans k₁ k₂) ffT) (fun b o e => k₂ _ _ (k₁ _ _ (b_stays _ _ e))) r1 r2 hf) (fun _ _ x => x.elim) kk
  · rintro v s' ⟨e, t, u', h₁, tk₁, rfl, rfl, hfl, ht, htn, hup⟩
    refine wpAny_looks_onW hfr' rfl hfl fun h₂ held up₂ => ?_
    refine wpAny_landsW held fun h₃ fl₃ up₃ => ?_
    have up13 := (hup.trans up₂).trans up₃
    have tup₃ := (ht.of_slots up₂).of_slots up₃
    have gH : ∀ h, base.StaysIn h → hT.UpToSlots h → GF base L2 [("line", .list ds), ("ahead", .list ds)] [] h := fun h st up => by
      refine ⟨st, m2, ns_upto up n2, fun x d e => ?_, fun x v e => by simp at e⟩
      have : ((("ahead" : Str), PyData.list ds) :: [("line", .list ds), ("mail", .tuple (k0 :: ks)), ("low", .int lo), ("late", .bool late)]).lookup x = some d := by
        have := PySem.mem_of_lookup e
        simp at this
        rcases this with ⟨rfl, rfl⟩ | ⟨rfl, rfl⟩ <;> rfl
      obtain ⟨v, as, e1, e2⟩ := rb2 x d this
      exact ⟨v, as, e1, rds_kp (.of_keep st) (rds_base e2)⟩
    refine wpAny_handleBy_builtin_as (X := "ValueError") (T := "ValueError") (b := true) F.excRaise_ValueError.isExc F.notTuple_ValueError F.self_ValueError (NV.built (hBase _ _) rfl rfl rfl rfl rfl rfl _ _ _ _ _ _ (gH h₃ fl₃.1 up13) ⟨rfl, ?_, ?_⟩)
    · obtain ⟨oe, vs, he, hc, _⟩ := fl₃.first
      exact ⟨oe, he, hc⟩
    · rw [if_pos rfl]
      refine wpAny_setFlight_noneW fl₃.1 fl₃.2.2.1 fl₃.2.2.2.at fun h₄ st₄ ff₄ tr₄ up₄ => ?_
      have up14 : hT.UpToSlots h₄ := up13.trans fun b o e hq => ⟨o.slots, up₄ b o e hq⟩
      have tup₄ : h₄.TupAt t [.str "lo must be non-negative" u'] := tup₃.of_slots fun b o e hq => ⟨o.slots, up₄ b o e hq⟩
      have exc₄ : h₄.ExcAt e "ValueError" (.ref t) := by
        obtain ⟨oe, vs, T, oT, ts, he, hc, hd, _⟩ := tr₄
        exact ⟨oe, vs, he, hc.1, hd, hc.2⟩
      obtain ⟨_, m4, n4, rb4, _⟩ := gH h₄ st₄ up14
      refine wpAny_storeName_local rfl n4 (fun h₅ n₅ s₅ => ?_) rfl
      have hne2 : ∀ b, (∃ o, h₄.get? b = some o ∧ ∀ es ep, o.data ≠ .dict es ep) → b ≠ L2 := fun b ⟨o, ho, hd⟩ q => by
        subst q
        obtain ⟨o', es, ep, ho', hd', _⟩ := n4
        rw [ho'] at ho; cases ho; exact hd _ _ hd'
      have g₅ : GF base L2 [("line", .list ds), ("ahead", .list ds)] [("error", .ref e)] h₅ ∧ h₅.ExcAt e "ValueError" (.ref t) ∧ h₅.TupAt t [.str "lo must be non-negative" u'] := by
        refine ⟨⟨fun b o eb => s₅.extBut b o (by rintro rfl; rw [b_L2] at eb; cases eb) (st₄ b o eb), _, n₅, fun x d ex => ?_, fun x v ex => ?_⟩, ?_, ?_⟩
        · obtain ⟨v, as, e1, e2⟩ := rb4 x d ex
          have hx : x ≠ "error" := by
            have := PySem.mem_of_lookup ex
            simp at this
            rcases this with ⟨rfl, _⟩ | ⟨rfl, _⟩ <;> decide
          exact ⟨v, as, by simp [hx, e1], rds_but n4 s₅.extBut e2⟩
        · have := PySem.mem_of_lookup ex
          simp at this
          obtain ⟨rfl, rfl⟩ := this
          simp
        · obtain ⟨oe, vs, he, hc, hd, h0⟩ := exc₄
          exact ⟨oe, vs, s₅.extBut _ _ (hne2 _ ⟨oe, he, fun es ep q => by rw [hd] at q; cases q⟩) he, hc, hd, h0⟩
        · obtain ⟨ot, nt, hot, hc, hd⟩ := tup₄
          exact ⟨ot, nt, s₅.extBut _ _ (hne2 _ ⟨ot, hot, fun es ep q => by rw [hd] at q; cases q⟩) hot, hc, hd⟩
      have hm : Mono fun h => GF base L2 [("line", .list ds), ("ahead", .list ds)] [("error", .ref e)] h ∧ h.ExcAt e "ValueError" (.ref t) ∧ h.TupAt t [.str "lo must be non-negative" u'] :=
        fun h h' k x => ⟨mono_GF _ _ k x.1, excAt_kf k x.2.1, x.2.2.keeps k⟩
      have hu : (A'.mark (some (.ref e))).units + 64 < cLine := by have := hA'.units; simp only [Around.mark_units]; omega
      generalize hG5 : (fun h => GF base L2 [("line", .list ds), ("ahead", .list ds)] [("error", .ref e)] h ∧ h.ExcAt e "ValueError" (.ref t) ∧ h.TupAt t [.str "lo must be non-negative" u']) = G5 at hm
      have imp : ∀ h, G5 h → GF base L2 [("line", .list ds), ("ahead", .list ds)] [("error", .ref e)] h := fun h x => by subst hG5; exact x.1
      have imp2 : ∀ h, G5 h → h.ExcAt e "ValueError" (.ref t) ∧ h.TupAt t [.str "lo must be non-negative" u'] := fun h x => by subst hG5; exact x.2
      have g₅ : G5 h₅ := by subst hG5; exact g₅
      have hstr : ∀ p q pos, EV w (A'.mark (some (.ref e))) (callEnv (fdOf "_law_refused" (topSt 18) .none .none pm 195) L2 196) G5 true (.Call (.Name "str" p) [.Name "error" q] [] pos) (.str "lo must be non-negative") := by
        intro p q pos s₆ E₆ g₆
        exact wp_call1 g₆ (NV.imp imp (NV.built (hBase _ _) rfl rfl rfl rfl rfl rfl)) KPr.type (NV.imp imp (NV.loc (v := .ref e) rfl rfl rfl rfl rfl)) (P.str_of_exc_one F.excStr_ValueError (by omega) (imp2 _ g₆).1 (imp2 _ g₆).2 ⟨⟨[], .str _ _, fun _ _ h => nomatch h⟩, keeps_refl _⟩)
      refine st_ret (d := .bool (true && true)) g₅ (EV.andB (g := true) hm (a := true) (b := true) (EV.eqd (a := .str "lo must be non-negative") (b := .str "lo must be non-negative") hm hu (by decide +kernel) (by decide +kernel) (hstr _ _ _) EV.str) fun _ => ?_) fun v s' cs rv _ k' => ?_
      · exact EV.cast (by rw [PySem.SeqAt.eqv_refl (.list ds) (SeqAt.canLay_of_shaped hsh)]) (EV.eqd hm hu hsh hsh (EV.imp imp (EV.loc (d := .list ds) rfl rfl rfl rfl rfl)) (EV.imp imp (EV.loc (d := .list ds) rfl rfl rfl rfl rfl)))
      · first | refine rdsI rv fun _ => ?_ | refine rdsS rv fun _ => ?_ | refine rdsB rv ?_ | refine rdsN rv ?_
        obtain ⟨h₆, tk₆, rfl, k₆⟩ := k'
        have g₆ := imp _ (hm _ _ k₆ g₅)
        obtain ⟨m6, n6, _⟩ := g₆.2
        refine wpAny_nameGoes rfl n6 rfl fun h₇ m₇ n₇ s₇ => hQ h₇ _ (fun b o hb eb => ?_) ?_
        · have hb2 : b ≠ L2 := by rintro rfl; rw [hnL2] at eb; cases eb
          exact s₇.extBut b o hb2 (g₆.1 _ _ (b_in b o hb hb2 (gT.1 _ _ eb)))
        · have nL4 : h₄.Ns L m := ns_upto up14 hnT
          have nL5 : h₅.Ns L m := nL4.at' fun o eo => s₅.extBut L o hLL2 eo
          exact (ns_kp (.of_keep k₆) nL5).at' fun o eo => s₇.extBut L o hLL2 eo
end
end Mine
set_option maxRecDepth 100000
set_option linter.all false
namespace Mine
open PySem PySem.Spec PySem.Calls PyProof.Rows PySem.W PySem.Builtin.Re

theorem slot_re_sub : Slot "re.Pattern" "sub" "re.Pattern.sub" :=
  .of (owner := "re.Pattern") (n := "sub") (by rw [typeLookup_type, builtinLookup_eq_fast]; kernel_rfl) (by decide +kernel) (by decide +kernel) (by decide +kernel)
    (by first | exact .inl (by decide +kernel) | exact .inr (by decide +kernel)) (by rw [isSubtype_type]; kernel_rfl)
theorem type_re_sub : typeOf (.builtin "re.Pattern.sub") = pure (.type "method_descriptor") := by show builtinType _ = _; rw [builtinType_eq_fast]; kernel_rfl
theorem entry_re_sub : entryFor table "re.Pattern.sub" = some Builtin.«re.Pattern.sub» := entryFor_of_tree (by kernel_rfl)
theorem entry_re_loop : entryFor table "re.Pattern.sub.loop" = some Builtin.«re.Pattern.sub.loop» := entryFor_of_tree (by kernel_rfl)
theorem plain_re_loop : plainId "re.Pattern.sub.loop" = true := by decide +kernel
theorem plainAttrs_re : PlainAttrs "re.Pattern" :=
  ⟨⟨"object.__getattribute__", by rw [typeLookup_type, builtinLookup_eq_fast]; kernel_rfl, by decide +kernel⟩, by rw [typeLookup_type, builtinLookup_eq_fast]; kernel_rfl⟩
theorem args_re_sub (a b c : Value) : argsOk "re.Pattern.sub" ⟨[a, b, c], []⟩ := by
  unfold argsOk; rw [signature?_of (id := "re.Pattern.sub") (n := ['b', 'u', 's']) (o := "re.Pattern".toList.reverse) (by kernel_rfl) (rows := Manifest.sig_re_Pattern) (by kernel_rfl)]; kernel_rfl
end Mine
set_option maxRecDepth 100000
set_option linter.all false
namespace Mine
open PySem PySem.Spec PySem.Calls PyProof.Rows PySem.W PySem.Builtin.Re
noncomputable def drv : Nat → Sre.M → Option Sre.M
  | 0, _ => none
  | k + 1, m => if (m.runFor reTurnSteps).outcome.isSome then some (m.runFor reTurnSteps) else drv k (m.runFor reTurnSteps)
noncomputable def nextF (code text : Array Nat) (start : Nat) (must : Bool) : Option (Option (Nat × Nat)) :=
  match drv 60 (Sre.forSearch code text 0 start text.size must) with
  | none => none
  | some m => match m.outcome with
    | some .matched => some (some (m.start, m.handed))
    | some .failed => some none
    | _ => none
noncomputable def subP (code text : Array Nat) (repl : List Nat) : Nat → Nat → Nat → Bool → List (List Nat) → Option (List (List Nat))
  | 0, _, _, _, _ => none
  | k + 1, done, start, must, acc => match nextF code text start must with
    | none => none
    | some none => some (acc ++ if done < text.size then [(text.extract done text.size).toList] else [])
    | some (some (b, e)) => subP code text repl k e e (e == b) (acc ++ (if done < b then [(text.extract done b).toList] else []) ++ [repl])
noncomputable def code1 : Array Nat := #[14, 4, 0, 1, 1, 6, 1, 16, 46, 1]
noncomputable def code2 : Array Nat := #[14, 9, 4, 1, 2, 16, 10, 16, 13, 0, 7, 7, 16, 13, 16, 10, 15, 18, 5, 16, 10, 15, 13, 11, 16, 13, 5, 5, 0, 16, 10, 1, 15, 2, 0, 1]
noncomputable def quotP (x : List Nat) : Option (List Nat) :=
  match subP code2 x.toArray [13, 10] 20 0 0 false [] with
  | none => none
  | some ps => (subP code1 ps.flatten.toArray [46, 46] 20 0 0 false []).map List.flatten
noncomputable def sentGo : List Nat → List Nat → Bool → List Nat → List Nat
  | [], out, _, _ => out
  | c :: r, out, fresh, ahead =>
    if c = 13 ∨ c = 10 then sentGo r (if ahead ++ [c] = [13, 10] then out else out ++ [13, 10]) true [c]
    else sentGo r (out ++ (if fresh = true ∧ c = 46 then [46, 46] else [c])) false [c]
noncomputable def sentP (x : List Nat) : List Nat := sentGo x [] true []
noncomputable def alpha : List (List Nat) := [[97], [46], [10], [13], [45], []]

section
variable {M : Model} {A : Around} {E : Value → Shared → Prop} {s : Shared}
theorem drive_ok : ∀ {k N : Nat} {m m' : Sre.M} {Q : Sre.M → Shared → Prop}, drv k m = some m' → k ≤ N → Q m' s → wpAny M A (reDrive N m) Q E s
  | 0, N, m, m', Q, h, _, q => by simp [drv] at h
  | k + 1, 0, m, m', Q, h, hk, q => by omega
  | k + 1, N + 1, m, m', Q, h, hk, q => by
    unfold drv at h
    unfold reDrive
    by_cases ho : (m.runFor reTurnSteps).outcome.isSome
    · rw [if_pos ho] at h
      cases h
      simp only [ho, if_true]
      exact wpAny_pure q
    · rw [if_neg ho] at h
      simp only [ho, if_false]
      exact wpAny_bind (wpAny_rule (drive_ok h (by omega) q))
theorem runToEnd_ok {m : Sre.M} {r : Option (Nat × Nat)} {Q : Option Sre.M → Shared → Prop}
    (h : ∃ m', drv 60 m = some m' ∧ (r = none ∧ m'.outcome = some .failed ∨ r = some (m'.start, m'.handed) ∧ m'.outcome = some .matched))
    (q0 : r = none → Q none s) (q1 : ∀ m', r = some (m'.start, m'.handed) → Q (some m') s) : wpAny M A (reRunToEnd m) Q E s := by
  obtain ⟨m', h, ho⟩ := h
  unfold reRunToEnd
  generalize hN : 2 ^ 64 = N
  have hN : 60 ≤ N := by rw [← hN]; decide
  refine wpAny_bind (drive_ok h hN ?_)
  refine wpAny_bind (wpAny_forIn_list _ (fun _ _ s' => s' = s) _ ?_ ?_ _ _ rfl)
  · rintro x rest b s' rfl
    split
    · exact wpAny_bind (wpAny_rule (wpAny_pure rfl))
    · exact wpAny_pure rfl
  · rintro b s' rfl
    rcases ho with ⟨hr, ho⟩ | ⟨hr, ho⟩
    · rw [ho]; exact wpAny_pure (q0 hr)
    · rw [ho]; exact wpAny_pure (q1 m' hr)
theorem nextFound_ok {t : ReTarget} {start : Nat} {must : Bool} {r : Option (Nat × Nat)} {Q : Option Sre.M → Shared → Prop} (hg : t.groups = 0) (hl : t.lim = t.text.size)
    (h : nextF t.code t.text start must = some r) (q0 : r = none → Q none s) (q1 : ∀ m', r = some (m'.start, m'.handed) → Q (some m') s) : wpAny M A (reNextFound t start must) Q E s := by
  unfold reNextFound
  rw [hg, hl]
  refine runToEnd_ok (r := r) ?_ q0 q1
  unfold nextF at h
  cases hd : drv 60 (Sre.forSearch t.code t.text 0 start t.text.size must) with
  | none => rw [hd] at h; cases h
  | some m =>
    rw [hd] at h
    refine ⟨m, rfl, ?_⟩
    replace h : (match m.outcome with | some .matched => some (some (m.start, m.handed)) | some .failed => some none | _ => none) = some r := h
    split at h
    · rename_i ho; cases h; exact .inr ⟨rfl, ho⟩
    · rename_i ho; cases h; exact .inl ⟨rfl, ho⟩
    · cases h

/- a compiled pattern -/
noncomputable def ReAt (h : Heap) (a : Addr) (code : Array Nat) : Prop := ∃ o vs c oc items n, h.get? a = some o ∧ o.cls = .type "re.Pattern" ∧ o.dict = none ∧ o.data = .fields vs ∧ reRawNat (vs.getD 6 .none) = 0 ∧ reRawNat (vs.getD 2 .none) = 0 ∧ vs.getD 5 .none = .ref c ∧
  h.get? c = some oc ∧ oc.cls = .type "tuple" ∧ oc.data = .seq items n ∧ (items.map reRawOf).map (·.toNat) = code
theorem ReAt.kp {h h' : Heap} {a : Addr} {code : Array Nat} (k : Kp h h') (x : ReAt h a code) : ReAt h' a code := by
  obtain ⟨o, vs, c, oc, items, n, ho, hc, hdi, hd, h6, h2, h5, hoc, hct, hs, hm⟩ := x
  exact ⟨o, vs, c, oc, items, n, k _ _ ho (tabby_cls hc), hc, hdi, hd, h6, h2, h5, k _ _ hoc (tabby_seq hs), hct, hs, hm⟩
theorem wholeTarget_ok {a : Addr} {code : Array Nat} {x : Str} {t : Tok} {Q : ReTarget → Shared → Prop} (R : ReAt s.heap a code) (q : Q { pattern := .ref a, string := .str x t, code := code, text := x.cps, kind := 0, groups := 0, pos := 0, lim := x.cps.size } s) :
    wpAny M A (reWholeTarget (.ref a) (.str x t)) Q E s := by
  obtain ⟨o, vs, c, oc, items, n, ho, hc, hdi, hd, h6, h2, h5, hoc, hct, hs, hm⟩ := R
  unfold reWholeTarget
  refine wpAny_bind (wpAny_fieldsOf ho hd ?_)
  have e1 : reTextOf (.str x t) = pure (x.cps, 0) := rfl
  rw [e1]
  refine wpAny_bind (wpAny_pure ?_)
  rw [h6]
  dsimp only
  refine wpAny_bind (wpAny_pure ?_)
  unfold reRawItems
  rw [h5]
  refine wpAny_bind (wpAny_bind (wpAny_seqItems hoc hs (wpAny_pure (wpAny_pure ?_))))
  rw [h2]
  show Q { pattern := .ref a, string := .str x t, code := (items.map reRawOf).map (·.toNat), text := x.cps, kind := 0, groups := 0, pos := 0, lim := x.cps.size } s
  rw [hm]
  exact q

theorem wp_push {list : Addr} {vs : Array Value} {c : Nat} {v : Value} {Q : Unit → Shared → Prop} (ho : s.heap.get? list = some (listO vs c)) (hz : vs.size ≤ 1000)
    (hQ : ∀ h' c', h'.get? list = some (listO (vs.push v) c') → KBut list s.heap h' → Q () { s with heap := h' }) : wpAny M A (updateSeq list fun x => x.push v) Q E s := by
  have hz' : vs.size ≤ sizeLine := Nat.le_trans hz (by decide)
  refine wpAny_updateSeq ho rfl (hQ _ _ (PySem.IsL.update ho _) (Heap.SameBut.update ..).extBut) hz' (by simp; omega)
theorem strsAre_push {vs : List Value} {ys : List Str} {v : Str} {t : Tok} (h : StrsAre vs ys) : StrsAre (vs ++ [.str v t]) (ys ++ [v]) := by
  induction h with
  | nil => exact .cons _ _ .nil
  | cons x t h ih => exact .cons _ _ ih
theorem strs_snoc {vs : Array Value} {acc : List (List Nat)} {arr : Array Nat} {t : Tok} (h : StrsAre vs.toList (acc.map fun l => (⟨l.toArray⟩ : Str))) : StrsAre (vs.push (.str ⟨arr⟩ t)).toList ((acc ++ [arr.toList]).map fun l => (⟨l.toArray⟩ : Str)) := by
  rw [List.map_append, Array.toList_push]
  have e : ([arr.toList].map fun l => (⟨l.toArray⟩ : Str)) = [⟨arr⟩] := by simp
  rw [e]
  exact strsAre_push h
theorem strsAre_len {vs : List Value} {ys : List Str} (h : StrsAre vs ys) : vs.length = ys.length := by
  induction h with
  | nil => rfl
  | cons x t h ih => simp [ih]
theorem ReAt.but {h h' : Heap} {a : Addr} {code : Array Nat} {l : Addr} {vs : Array Value} {c : Nat} (k : KBut l h h') (hl : h.get? l = some (listO vs c)) (x : ReAt h a code) : ReAt h' a code := by
  obtain ⟨o, ws, cc, oc, items, n, ho, hc, hdi, hd, h6, h2, h5, hoc, hct, hs, hm⟩ := x
  exact ⟨o, ws, cc, oc, items, n, k _ _ (by rintro rfl; rw [hl] at ho; cases ho; simp at hc) ho, hc, hdi, hd, h6, h2, h5, k _ _ (by rintro rfl; rw [hl] at hoc; cases hoc; simp at hct) hoc, hct, hs, hm⟩
theorem kbut_trans {l : Addr} {a b c : Heap} (x : KBut l a b) (y : KBut l b c) : KBut l a c := fun p o hp e => y p o hp (x p o hp e)
theorem join_empty : ∀ ys : List Str, Str.join ⟨#[]⟩ ys = ⟨(ys.map fun y => y.cps.toList).flatten.toArray⟩
  | [] => rfl
  | [x] => by obtain ⟨⟨x⟩⟩ := x; simp [Str.join]
  | x :: y :: r => by
    rw [Str.join, join_empty (y :: r)]
    · obtain ⟨⟨x⟩⟩ := x
      show Str.mk ((x.toArray ++ #[]) ++ _) = _
      simp
    · simp

theorem loop_ok {a : Addr} {code : Array Nat} {x repl : Str} {t tr : Tok} {list : Addr} {out : List (List Nat)} (hre : repl.cps.size ≤ 2) (hx : x.cps.size ≤ 12) : ∀ (k : Nat) (n : Int) (done start : Nat) (must : Bool) (acc : List (List Nat)) (vs : Array Value) (c : Nat),
    acc.length + 2 * k ≤ 100 → (∀ l ∈ acc, l.length ≤ 12) →
    subP code x.cps repl.cps.toList k done start must acc = some out →
    Meets (Builtin.«re.Pattern.sub.loop» ⟨[.ref a, .str x t, .str repl tr, rawInt 0, rawInt 0, rawInt n, rawInt done, rawInt start, .bool must, .ref list, .bool false], []⟩)
      (fun A R s => ReAt s.heap a code ∧ s.heap.get? list = some (listO vs c) ∧ StrsAre vs.toList (acc.map fun l => ⟨l.toArray⟩) ∧
        (∀ h' tk u, KBut list s.heap h' → R (.ok (.ret (.str ⟨out.flatten.toArray⟩ u))) { s with heap := h', toks := tk }))
  | 0, _, _, _, _, _, _, _, _, _, h => by simp [subP] at h
  | k + 1, n, done, start, must, acc, vs, c, hk, hacc, h => by
    intro prog w A R s hyp
    obtain ⟨hR, hl, hs, hQ⟩ := hyp
    have hvs : vs.size = acc.length := by have := strsAre_len hs; simpa using this
    have hext : ∀ b e, (x.cps.extract b e).size ≤ 12 := fun b e => by simp; omega
    have hsl : 12 ≤ sizeLine := by decide
    show wpAny _ _ (reWholeTarget (.ref a) (.str x t) >>= _) _ _ _
    refine wpAny_bind (wholeTarget_ok hR ?_)
    simp only [beq_self_eq_true, if_true, bne_self_eq_false, Bool.false_and, Bool.false_eq_true, if_false, Int.toNat_natCast, pure_bind]
    refine wpAny_bind (wpAny_pure ?_)
    unfold subP at h
    cases hn : nextF code x.cps start must with
    | none => rw [hn] at h; cases h
    | some r =>
      rw [hn] at h
      refine wpAny_bind (nextFound_ok (r := r) rfl rfl hn ?_ ?_)
      · rintro rfl
        replace h : some (acc ++ if done < x.cps.size then [(x.cps.extract done x.cps.size).toList] else []) = some out := h
        injection h with h
        have fin : ∀ (h₁ : Heap) (tk₁ : Nat) (ws : Array Value) (c₁ : Nat), h₁.get? list = some (listO ws c₁) → StrsAre ws.toList (out.map fun l => ⟨l.toArray⟩) → KBut list s.heap h₁ →
            wpAny (model prog w) A.in1 (do
              let joiner ← reSlice x.cps 0 0 0
              let __do_lift ← seqItems? (Value.ref list)
              if (__do_lift.getD #[]).isEmpty = true then ret joiner
                else do
                  let __do_lift ← call (Value.builtin "str.join") [joiner, Value.ref list]
                  ret __do_lift)
              (fun fin s' => match fin with | .done f => R (.ok f) s' | .again c' => c'.quiet = true ∧ codeAny (model prog w) A c' R s') (fun e s' => R (.error e) s') { s with heap := h₁, toks := tk₁ } := by
          intro h₁ tk₁ ws c₁ hl₁ hs₁ k₁
          refine wpAny_bind (wpAny_mkStr (x := ⟨x.cps.extract 0 0⟩) ?_ (by show (x.cps.extract 0 0).size ≤ _; have := hext 0 0; omega))
          refine wpAny_bind (wpAny_seqItems hl₁ rfl ?_)
          have hlen := strsAre_len hs₁
          rw [show (some ws).getD #[] = ws from rfl]
          by_cases he : ws.isEmpty = true
          · rw [if_pos he]
            have : out = [] := by
              have : ws.toList.length = 0 := by simpa using he
              rw [hlen, List.length_map] at this
              exact List.eq_nil_of_length_eq_zero this
            refine wpAny_pure ?_
            have q := hQ h₁ (tk₁ + 1) tk₁ k₁
            rw [this] at q
            simpa using q
          · rw [if_neg he]
            have hacc' : ∀ l ∈ out, l.length ≤ 12 := by
              rw [← h]
              intro l hl
              rcases List.mem_append.mp hl with hl | hl
              · exact hacc l hl
              · split at hl
                · simp only [List.mem_singleton] at hl; subst hl; rw [Array.length_toList]; exact hext done x.cps.size
                · simp at hl
            have hol : out.length ≤ 100 := by
              rw [← h, List.length_append]
              split <;> simp <;> omega
            have hsum : ∀ l : List (List Nat), (∀ q ∈ l, q.length ≤ 12) → ((l.map fun q => (⟨q.toArray⟩ : Str)).map (·.length)).sum ≤ 12 * l.length := by
              intro l
              induction l with
              | nil => simp
              | cons q l ih =>
                intro hq
                have h1 := ih fun r hr => hq r (.tail _ hr)
                have h2 := hq q (.head _)
                have h3 : (⟨q.toArray⟩ : Str).length = q.length := by simp [Str.length]
                simp only [List.map_cons, List.sum_cons, List.length_cons, h3]
                omega
            refine wpAny_bind (join_list ⟨_, hl₁, rfl, _, rfl⟩ hs₁ ?_ fun t' k' => wpAny_pure ?_)
            · have := hsum out hacc'
              have e0 : (⟨x.cps.extract 0 0⟩ : Str).length = 0 := by simp [Str.length]
              rw [e0]
              omega
            · have q := hQ h₁ k' t' k₁
              have e : Txt.join ⟨x.cps.extract 0 0⟩ (out.map fun l => (⟨l.toArray⟩ : Str)) = ⟨out.flatten.toArray⟩ := by
                rw [show (⟨x.cps.extract 0 0⟩ : Str) = ⟨#[]⟩ by simp]
                have := join_empty (out.map fun l => (⟨l.toArray⟩ : Str))
                rw [List.map_map] at this
                show PySem.Builtin.Str.glued _ _ = _
                rw [PySem.StrLaws.glued_eq_join, this]
                congr 3
                simp [Function.comp_def]
              rw [e]
              exact q
        dsimp only
        by_cases hd : done < x.cps.size
        · rw [if_pos hd] at h ⊢
          refine wpAny_bind (wpAny_mkStr (x := ⟨x.cps.extract done x.cps.size⟩) ?_ (by show (x.cps.extract done x.cps.size).size ≤ _; have := hext done x.cps.size; omega))
          refine wpAny_bind (wp_push hl (by omega) fun h₁ c₁ hl₁ k₁ => ?_)
          refine fin h₁ _ _ _ hl₁ ?_ k₁
          rw [← h]
          exact strs_snoc hs
        · rw [if_neg hd] at h ⊢
          refine fin s.heap s.toks vs c hl ?_ (fun _ _ _ e => e)
          rw [← h]
          simpa using hs
      · intro m hm
        subst hm
        replace h : subP code x.cps repl.cps.toList k m.handed m.handed (m.handed == m.start) (acc ++ (if done < m.start then [(x.cps.extract done m.start).toList] else []) ++ [repl.cps.toList]) = some out := h
        have step : ∀ (h₁ : Heap) (tk₁ : Nat) (ws : Array Value) (c₁ : Nat), h₁.get? list = some (listO ws c₁) → StrsAre ws.toList ((acc ++ (if done < m.start then [(x.cps.extract done m.start).toList] else [])).map fun l => ⟨l.toArray⟩) → KBut list s.heap h₁ →
            wpAny (model prog w) A.in1 (if (Value.str repl tr != Value.none) = true then do
              updateSeq list fun x => x.push (Value.str repl tr)
              again (Code.builtin "re.Pattern.sub.loop" { pos := [Value.ref a, Value.str x t, Value.str repl tr, rawInt 0, rawInt 0, rawInt (n + 1), rawInt ↑m.handed, rawInt ↑m.handed, Value.bool (m.handed == m.start), Value.ref list, Value.bool false] })
              else again (Code.builtin "re.Pattern.sub.loop" { pos := [Value.ref a, Value.str x t, Value.str repl tr, rawInt 0, rawInt 0, rawInt (n + 1), rawInt ↑m.handed, rawInt ↑m.handed, Value.bool (m.handed == m.start), Value.ref list, Value.bool false] }))
              (fun fin s' => match fin with | .done f => R (.ok f) s' | .again c' => c'.quiet = true ∧ codeAny (model prog w) A c' R s') (fun e s' => R (.error e) s') { s with heap := h₁, toks := tk₁ } := by
          intro h₁ tk₁ ws c₁ hl₁ hs₁ k₁
          have hws := strsAre_len hs₁
          rw [if_pos (by simp)]
          refine wpAny_bind (wp_push hl₁ ?_ fun h₂ c₂ hl₂ k₂ => wpAny_pure ?_)
          · rw [Array.length_toList, List.length_map, List.length_append] at hws
            split at hws <;> simp at hws <;> omega
          refine ⟨plainId_quiet plain_re_loop _, codeAny_builtin entry_re_loop ?_⟩
          rw [Around.under_plainId plain_re_loop _]
          refine loop_ok hre hx k (n + 1) m.handed m.handed (m.handed == m.start) _ (ws.push (.str repl tr)) c₂ ?_ ?_ h prog w A R _ ⟨(hR.but k₁ hl).but k₂ hl₁, hl₂, ?_, fun h' tk' u k' => hQ h' tk' u (kbut_trans (kbut_trans k₁ k₂) k')⟩
          · simp only [List.length_append, List.length_cons, List.length_nil]
            split <;> simp <;> omega
          · intro l hl
            rcases List.mem_append.mp hl with hl | hl
            · rcases List.mem_append.mp hl with hl | hl
              · exact hacc l hl
              · split at hl
                · simp only [List.mem_singleton] at hl; subst hl; rw [Array.length_toList]; exact hext done m.start
                · simp at hl
            · simp at hl; subst hl; simp; omega
          · exact strs_snoc hs₁
        dsimp only
        by_cases hd : done < m.start
        · rw [if_pos hd]
          refine wpAny_bind (wpAny_mkStr (x := ⟨x.cps.extract done m.start⟩) ?_ (by show (x.cps.extract done m.start).size ≤ _; have := hext done m.start; omega))
          refine wpAny_bind (wp_push hl (by omega) fun h₁ c₁ hl₁ k₁ => ?_)
          refine step h₁ _ _ _ hl₁ ?_ k₁
          rw [if_pos hd]
          exact strs_snoc hs
        · rw [if_neg hd]
          refine step s.heap s.toks vs c hl ?_ (fun _ _ _ e => e)
          rw [if_neg hd]
          simpa using hs
end
end Mine
set_option maxRecDepth 100000
set_option linter.all false
namespace Mine
open PySem PySem.Spec PySem.Calls PyProof.Rows PySem.W PySem.Builtin.Re
theorem noCall_str : typeLookup (.type "str") "__call__" = pure none := by rw [typeLookup_type, builtinLookup_eq_fast]; kernel_rfl

theorem sub_meets {a : Addr} {code : Array Nat} {x repl : Str} {t tr : Tok} {out : List (List Nat)} (hre : repl.cps.size ≤ 2) (hx : x.cps.size ≤ 12) (h92 : repl.cps.contains 92 = false) (hout : subP code x.cps repl.cps.toList 20 0 0 false [] = some out) :
    Meets (Builtin.«re.Pattern.sub» ⟨[.ref a, .str repl tr, .str x t], []⟩)
      (fun A R s => ReAt s.heap a code ∧ (∀ h' tk u, Kf s.heap h' → R (.ok (.ret (.str ⟨out.flatten.toArray⟩ u))) { s with heap := h', toks := tk })) := by
  intro prog w A R s hyp
  obtain ⟨hR, hQ⟩ := hyp
  have e1 : reNamed "re.Pattern.sub" "sub" ["repl", "string", "count"] 2 [.str repl tr, .str x t] [] = pure [some (.str repl tr), some (.str x t), none] := rfl
  show wpAny _ _ (reNamed "re.Pattern.sub" "sub" ["repl", "string", "count"] 2 [.str repl tr, .str x t] [] >>= _) _ _ _
  rw [e1]
  refine wpAny_bind (wpAny_pure ?_)
  dsimp only
  refine wpAny_bind (wpAny_pure (wpAny_bind (wpAny_specialOf (T := "str") (r := none) (typeIs_str _ _ _) noCall_str ?_)))
  simp only [Option.isSome_none, Bool.false_eq_true, if_false]
  rw [show asStr? (.str repl tr) = pure (some repl) from rfl]
  simp only [pure_bind, h92, Bool.not_false, if_true]
  refine wpAny_bind (wpAny_holding (wholeTarget_ok hR ?_))
  rw [if_neg (by decide)]
  refine wpAny_bind (wpAny_newList (wpAny_pure ?_) (by decide))
  refine ⟨plainId_quiet plain_re_loop _, codeAny_builtin entry_re_loop ?_⟩
  rw [Around.under_plainId plain_re_loop _]
  refine loop_ok hre hx 20 0 0 0 false [] #[] 0 (by decide) (by simp) hout prog w A R _ ⟨hR.kp (kp_of (keeps_push s _)), Heap.get?_push_size _ rfl, .nil, fun h' tk' u k' => hQ h' tk' u fun b o e => k' b o (Nat.ne_of_lt (Heap.lt_size e)) (Heap.get?_push_of_some _ e)⟩

section
variable {w : World} {A : Around} {env : Env} {G : Heap → Prop} {s : Shared} {E : Value → Shared → Prop} {Q : Value → Shared → Prop}
/- a method of an object at a known place, of a builtin type -/
theorem wp_methR (hm : Mono G) {b : Bool} {T : String} {x : Str} {la : Addr} {e : Expr} {es : List Expr} {name : Str} {id : String} {px apos pos : Pos} {ds : List PyData} {pl : Sem Bool} (slot : Slot T name id) (hp : PlainAttrs T) (hty : typeOf (.builtin id) = pure (.type "method_descriptor"))
    (g : G s.heap) (hn : NV env G x (.ref la)) (hl : ∀ h, G h → ∃ o, h.get? la = some o ∧ o.cls = .type T ∧ o.dict = none) (hargs : EVs w A env G b pos (e :: es) ds)
    (hc : ∀ (s₁ : Shared) (vs : List Value) (as : List Addr), Keeps s s₁ → G s₁.heap → RdsAll s₁.heap vs ds as → wpAny (model thePr w) A (PySem.call (.builtin id) (.ref la :: vs)) Q E s₁)
    (he : autoParam (eval (.Call (.Attribute (.Name x px) name apos) (e :: es) [] pos) env = (do
      let ov ← eval (.Name x px) env
      standAt apos.atName
      let (f, first) ← holding [ov] (getMethod ov name pl)
      callWith pos f first (backTo pos (starEach (e :: es) env)) [])) byRfl)
    (hs : autoParam (starEach (e :: es) env = (false, eval e env) :: starEach es env) byRfl) (hplain : autoParam ((backTo pos (starEach es env)).any (·.1) = false) byRfl) :
    wpAny (model thePr w) A (eval (.Call (.Attribute (.Name x px) name apos) (e :: es) [] pos) env) Q E s := by
  refine MethodCall_ (pl := pl) (hn _ _ _ _ _ _ g ?_) he
  obtain ⟨o, ho, hc1, hd1⟩ := hl _ g
  refine getMethod_builtin (T := T) ⟨o, ho, hc1⟩ hp slot hty (fun a e => by cases e; exact ⟨o, ho, hd1⟩) ?_
  refine callWith_method1 (evs_go (hargs s E g) fun vs s₂ as ra k₂ => ?_) hs hplain
  exact hc s₂ vs as k₂ (hm _ _ (kf_of k₂) g) ra
theorem EV.resub (hm : Mono G) {b1 b2 : Bool} {x : Str} {la : Addr} {code : Array Nat} {e1 e2 : Expr} {px apos pos : Pos} {repl y : Str} {out : List (List Nat)} {pl : Sem Bool} (hn : NV env G x (.ref la)) (hl : ∀ h, G h → ReAt h la code)
    (h1 : EV w A env G b1 e1 (.str repl)) (h2 : EV w A env G b2 e2 (.str y)) (hre : repl.cps.size ≤ 2) (hx : y.cps.size ≤ 12) (h92 : repl.cps.contains 92 = false) (hout : subP code y.cps repl.cps.toList 20 0 0 false [] = some out)
    (he : autoParam (eval (.Call (.Attribute (.Name x px) (Str.ofString "sub") apos) [e1, e2] [] pos) env = (do
      let ov ← eval (.Name x px) env
      standAt apos.atName
      let (f, first) ← holding [ov] (getMethod ov (Str.ofString "sub") pl)
      callWith pos f first (backTo pos (starEach [e1, e2] env)) [])) byRfl)
    (hs : autoParam (starEach [e1, e2] env = (false, eval e1 env) :: starEach [e2] env) byRfl) (hs2 : autoParam (starEach [e2] env = (false, eval e2 env) :: starEach [] env) byRfl) :
    EV w A env G true (.Call (.Attribute (.Name x px) (Str.ofString "sub") apos) [e1, e2] [] pos) (.str ⟨out.flatten.toArray⟩) := by
  intro s E g
  refine wp_methR (T := "re.Pattern") (b := false) hm slot_re_sub plainAttrs_re type_re_sub g hn (fun h g => by obtain ⟨o, vs, c, oc, items, n, ho, hc, hdi, _⟩ := hl h g; exact ⟨o, ho, hc, hdi⟩) (.cons hm h1.weak (.cons hm h2.weak .nil hs2) hs) (fun s₁ vs as k₁ g₁ rv => ?_) he hs (by rw [hs2]; rfl)
  refine rds2 rv fun x1z x2z b1z b2z r1 r2 => ?_
  first | refine rdsI r1 fun _ => ?_ | refine rdsS r1 fun _ => ?_ | refine rdsB r1 ?_ | refine rdsN r1 ?_
  first | refine rdsI r2 fun _ => ?_ | refine rdsS r2 fun _ => ?_ | refine rdsB r2 ?_ | refine rdsN r2 ?_
  have R := hl _ g₁
  obtain ⟨o, vs, c, oc, items, n, ho, hc, hdi, _⟩ := id R
  refine call_meets slot_re_sub ⟨o, ho, hc⟩ entry_re_sub (args_re_sub _ _ _) (sub_meets hre hx h92 hout) ⟨R, fun h' tk u k' => ?_⟩
  exact ⟨⟨[], .str _ _, fun _ _ h => nomatch h⟩, keeps_trans k₁ ⟨h', tk, rfl, k'⟩⟩
theorem EV.crlf (hG : ∀ h, G h → Base h) {pos : Pos} (hx : env.kindOf "CRLF" = some .globalImplicit) (hk : env.scope.kind = .function) (hg : env.globals = mainGlobals) : EV w A env G false (.Name "CRLF" pos) (.str "\r\n") := by
  intro s E g
  obtain ⟨mg, n, _, _, ⟨t, e⟩, _⟩ := (hG _ g).gl
  exact Name_function_global hk hx (loadGlobal_global (mg := mg) (by rw [hg]; exact n) e ⟨⟨[], .str _ _, ff⟩, keeps_refl _⟩) rfl

/- quotedata -/
theorem quot_ok {va : Value} {x : Str} {as : List Addr} {out : List Nat} (hA : Room 2 A) (B : Base s.heap) (R1 : ReAt s.heap 163 code1) (R2 : ReAt s.heap 168 code2) (r : Rds s.heap va (.str x) as) (hx : x.cps.size ≤ 3) (hq : quotP x.cps.toList = some out) (ho : ∀ ps, subP code2 x.cps [13, 10] 20 0 0 false [] = some ps → ps.flatten.length ≤ 12)
    (hQ : ∀ u s', Keeps s s' → Q (.str ⟨out.toArray⟩ u) s') : wpAny (model thePr w) A (PySem.call (.ref 175) [va]) Q E s := by
  refine callFn (binds := [("data", va)]) B.quot B.lim hA.here (fun pm => .of_eq rfl) (by decide) (locs rfl) fun pm h₀ n k => ?_
  have g : GF s.heap s.heap.objs.size [("data", .str x)] [] h₀ := GF.start n k (fun p hp => by simp at hp; subst hp; exact ⟨_, _, rfl, r⟩) (by intro p hp; simp at hp)
  have hBG : ∀ bs vs h, GF s.heap s.heap.objs.size bs vs h → Base h := fun bs vs h g => B.kp (.of_keep g.1)
  unfold quotP at hq
  rw [Array.toArray_toList] at hq
  cases h2 : subP code2 x.cps [13, 10] 20 0 0 false [] with
  | none => rw [h2] at hq; cases hq
  | some ps =>
    rw [h2] at hq
    replace hq : (subP code1 ps.flatten.toArray [46, 46] 20 0 0 false []).map List.flatten = some out := hq
    cases h1 : subP code1 ps.flatten.toArray [46, 46] 20 0 0 false [] with
    | none => rw [h1] at hq; cases hq
    | some qs =>
      rw [h1] at hq
      simp at hq
      subst hq
      refine st_ret (f := true) (d := .str ⟨qs.flatten.toArray⟩) g ?_ fun v s' cs rv _ k' => ?_
      · refine EV.resub (b2 := true) (code := code1) mono_GF (NV.glob (hBG _ _) rfl rfl rfl rfl rfl) (fun h g => R1.kp (.of_keep g.1)) EV.str ?_ (by decide +kernel) (by simpa using ho ps h2) (by decide +kernel) h1
        exact EV.resub (code := code2) mono_GF (NV.glob (hBG _ _) rfl rfl rfl rfl rfl) (fun h g => R2.kp (.of_keep g.1)) (EV.crlf (hBG _ _) rfl rfl rfl) (EV.loc (d := .str x) rfl rfl rfl rfl rfl) (by decide +kernel) (by omega) (by decide +kernel) h2
      · first | refine rdsI rv fun _ => ?_ | refine rdsS rv fun _ => ?_ | refine rdsB rv ?_ | refine rdsN rv ?_
        exact hQ _ s' (keeps_trans ⟨h₀, _, rfl, k⟩ k')
end
end Mine
set_option maxRecDepth 100000
set_option linter.all false
namespace Mine
open PySem PySem.Spec PySem.Calls PyProof.Rows PySem.W
noncomputable def KX (X : Addr → Prop) (h h' : Heap) : Prop := ∀ b o, ¬ X b → h.get? b = some o → h'.get? b = some o
theorem KX.trans {X : Addr → Prop} {a b c : Heap} (x : KX X a b) (y : KX X b c) : KX X a c := fun p o hp e => y p o hp (x p o hp e)
theorem KX.of_kf {X : Addr → Prop} {a b : Heap} (x : Kf a b) : KX X a b := fun p o _ e => x p o e
/- all tuples stay -/
noncomputable def KT (h h' : Heap) : Prop := ∀ b vs n, h.get? b = some (tupO vs n) → h'.get? b = some (tupO vs n)
theorem rds_kt {h h' : Heap} (k : KT h h') {v : Value} {d : PyData} {as : List Addr} (r : Rds h v d as) (f : flat d = true) : Rds h' v d [] :=
  rds_flat r f ▸ rds_mv (S := fun _ => False) (fun _ _ _ f => f.elim) k r (by rw [rds_flat r f]; exact fun _ h => nomatch h)
theorem rdsAll_kt {h h' : Heap} (k : KT h h') {vs : List Value} {ds : List PyData} {as : List Addr} (r : RdsAll h vs ds as) (f : flatAll ds = true) : RdsAll h' vs ds [] :=
  rdsAll_flat r f ▸ rdsAll_mv (S := fun _ => False) (fun _ _ _ f => f.elim) k r (by rw [rdsAll_flat r f]; exact fun _ h => nomatch h)

noncomputable def ITN (w : World) (A : Around) (env : Env) (G : Heap → Prop) (iter : Expr) (xs : List PyData) : Prop :=
  ∀ (s : Shared) (E : Value → Shared → Prop) (Q : Value → Shared → Prop), G s.heap →
    (∀ s₁ s₂ I fp wr P St, Keeps s s₁ → Keeps s₁ s₂ → Src w A I fp wr xs P St s₁.heap → St 0 s₂.heap → (∀ b ∈ fp, b < s₂.heap.objs.size) → (∀ b ∈ fp, s.heap.get? b = none) → Q (.ref I) s₂) →
    wpAny (model thePr w) A (eval iter env) (fun x s₁ => wpAny (model thePr w) A (pyIter x) Q E s₁) E s
section
variable {w : World} {A : Around} {env : Env} {G : Heap → Prop} {s : Shared} {E : Value → Shared → Prop} {Q : Flow → Shared → Prop}

theorem st_for {xs : List PyData} {target iter : Expr} {body rest : List Stmt} {pos : Pos} (J : Nat → Shared → Prop) (X : Addr → Prop) (g : G s.heap) (hsrc : ITN w A env G iter xs)
    (hfl : ∀ d ∈ xs, flat d = true) (hX : ∀ b, X b → ∃ o, s.heap.get? b = some o ∧ ∀ vs n, o ≠ tupO vs n) (hJ0 : ∀ s', Keeps s s' → J 0 s')
    (hJ : ∀ i (s' : Shared) (h' : Heap) tk, J i s' → Kp s'.heap h' → (∀ b o, s.heap.get? b ≠ none → s'.heap.get? b = some o → h'.get? b = some o) → J i { s' with heap := h', toks := tk })
    (turn : ∀ i d (s₁ : Shared) v E', xs[i]? = some d → J i s₁ → Rds s₁.heap v d [] → wpAny (model thePr w) A (assign target env v) (fun _ s₂ => wpAny (model thePr w) A (execs body env) (fun f s₃ => match f with
      | .next | .cont => J (i + 1) s₃ ∧ KX X s₁.heap s₃.heap
      | .brk => False
      | .ret v => Q (.ret v) s₃) E' s₂) E' s₁)
    (next : ∀ s', J xs.length s' → wpAny (model thePr w) A (execs rest env) Q E s')
    (hs : ∀ x, foldedSetIterable iter env x = pure x := by intro _; rfl) :
    wpAny (model thePr w) A (execs (.For target iter body [] pos :: rest) env) Q E s := by
  refine wpAny_execs_cons (wpAny_For (hsrc s E _ g fun s₁ s₂ I fp wr P St k₁ k₂ src st₀ hfp hnew => ?_) hs)
  refine codeAny_forLoop_any (fun n s' => ∃ i, i ≤ xs.length ∧ n = xs.length - i ∧ St i s'.heap ∧ J i s' ∧ KT s₁.heap s'.heap) ?_ xs.length ⟨0, Nat.zero_le _, rfl, st₀, hJ0 _ (keeps_trans k₁ k₂), fun b vs n e => keeps_get k₂ e⟩
  rintro n s' ⟨i, hle, rfl, st, j, kt⟩
  have old : ∀ h' : Heap, (∀ b o, b ∉ wr → s'.heap.get? b = some o → h'.get? b = some o) → ∀ b o, s.heap.get? b ≠ none → s'.heap.get? b = some o → h'.get? b = some o := fun h' hk b o hb e => hk b o (fun hw => hb (none_of_keeps k₁ (src.new b hw))) e
  by_cases hi : i < xs.length
  · refine src.walks.item i s' _ _ hi st fun v h' tk hP st' hk => ?_
    have kp : Kp s'.heap h' := fun b o e ht => hk b o (fun hb => by have := src.loose i _ b st hb o e; rw [ht] at this; cases this) e
    have kt' : KT s₁.heap h' := fun b vs n e => hk b _ (fun hb => by rw [src.new b hb] at e; cases e) (kt b vs n e)
    have hd : xs[i]? = some xs[i] := by simp [hi]
    obtain ⟨as, r⟩ := src.item i v hP _ hd
    have r' : Rds h' v xs[i] [] := rds_kt kt' r (hfl _ (List.getElem_mem hi))
    refine src.own (i + 1) target v _ _ _ st' ?_
    refine wpAny_mono (turn i _ { s' with heap := h', toks := tk } v _ hd (hJ i s' h' tk j kp (old h' hk)) r') (fun _ s₂ h₂ => ?_) fun _ _ x => x
    refine wpAny_mono h₂ (fun f s₃ h₃ => ?_) fun _ _ x => x
    have fin : J (i + 1) s₃ ∧ KX X h' s₃.heap → ∃ m, m < xs.length - i ∧ ∃ i', i' ≤ xs.length ∧ m = xs.length - i' ∧ St i' s₃.heap ∧ J i' s₃ ∧ KT s₁.heap s₃.heap := fun ⟨j', kx⟩ => by
      refine ⟨xs.length - (i + 1), by omega, i + 1, hi, rfl, src.walks.frame _ _ _ st' fun b hb o e => kx b o (fun hx => ?_) e, j', fun b vs n e => kx b _ (fun hx => ?_) (kt' b vs n e)⟩
      · obtain ⟨o', ho', _⟩ := hX b hx
        rw [hnew b hb] at ho'; cases ho'
      · obtain ⟨o', ho', hc'⟩ := hX b hx
        rw [keeps_get k₁ ho'] at e
        exact hc' _ _ (Option.some.inj e)
    cases f with
    | next => exact fin h₃
    | cont => exact fin h₃
    | brk => exact h₃.elim
    | ret v => exact h₃
  · have : i = xs.length := by omega
    subst this
    refine src.walks.done s' _ _ st fun h' tk hk => ?_
    have kp : Kp s'.heap h' := fun b o e ht => hk b o (fun hb => by have := src.loose _ _ b st hb o e; rw [ht] at this; cases this) e
    exact wpAny_execs_nil (next _ (hJ _ s' h' tk j kp (old h' hk)))
end

section
variable {w : World} {A : Around} {env : Env} {G : Heap → Prop}
theorem ITN.str (hh : A.handled = none) {b : Bool} {e : Expr} {x : Str} (hasc : x.cps.all (· < 128) = true) (h : EV w A env G b e (.str x)) : ITN w A env G e (x.cps.toList.map fun c => PyData.str ⟨#[c]⟩) := by
  intro s E Q g hQ
  refine ev_go (h s E g) fun v s₁ as r k₁ => ?_
  cases r with
  | str _ t =>
  refine wpAny_pyIter_ascii hasc (hQ s₁ _ s₁.heap.objs.size [s₁.heap.objs.size] [s₁.heap.objs.size] _ _ k₁ (keeps_push _ _) ⟨(by simp : (x.cps.toList.map fun c => PyData.str ⟨#[c]⟩).length = x.cps.size).symm ▸ Walks.strAscii hh _ x t, ?_, ?_, ?_, ?_, ?_⟩ ⟨_, Heap.get?_push_size _ rfl, rfl, rfl⟩ ?_ ?_)
  · intro b hb; simp at hb; subst hb; exact fresh_size _
  · rintro i v ⟨c, u, hc, rfl⟩ d hd
    have : d = .str ⟨#[c]⟩ := by
      rw [List.getElem?_map] at hd
      have e : x.cps.toList[i]? = some c := by simpa using hc
      rw [e] at hd
      simpa using hd.symm
    subst this
    exact ⟨[], .str _ _⟩
  · intro i h b st hb o e
    simp at hb; subst hb
    obtain ⟨o', ho', hc', hd'⟩ := st
    rw [ho'] at e; cases e
    exact tabby_it hc' hd'
  · intro i h b st hb o vs n e
    simp at hb; subst hb
    obtain ⟨o', ho', hc', hd'⟩ := st
    rw [ho'] at e; cases e
    rw [hd']; nofun
  · intro i target v s E Q st hq
    obtain ⟨o', ho', hc', hd'⟩ := st
    exact letOwned_off ho' hc' (by decide) hq
  · intro b hb
    show b < (s₁.heap.push _).objs.size
    rw [Heap.size_push]
    simp at hb; subst hb
    exact Nat.lt_succ_self _
  · intro b hb
    simp at hb; subst hb
    exact none_of_keeps k₁ (fresh_size _)
end
end Mine
set_option maxRecDepth 100000
set_option linter.all false
namespace Mine
open PySem PySem.Spec PySem.Calls PyProof.Rows PySem.W
section
variable {w : World} {A : Around} {env : Env} {G : Heap → Prop} {s : Shared} {E : Value → Shared → Prop}
theorem wp_store {M : Model} {h0 : Heap} {L : Addr} {bs vs} {x : Str} {v : Value} {d : PyData} {as : List Addr} {Q : Unit → Shared → Prop} (g : GF h0 L bs vs s.heap) (h0L : h0.get? L = none) (r : Rds s.heap v d as) (hL : env.locals = L) (hx : env.kindOf x = some .local)
    (hp : (env.scope.kind == .class || (env.scope.kind == .module && env.locals != env.globals)) = false) (hv : vs.lookup x = none)
    (next : ∀ h' tk, GF h0 L ((x, d) :: bs) vs h' → KBut L s.heap h' → (∃ m, s.heap.Ns L m) → Q () { s with heap := h', toks := tk }) : wpAny M A (storeName env x v) Q E s := by
  subst hL
  obtain ⟨kf, m, n, rb, rv⟩ := g
  refine wpAny_storeName_local hx n (fun h₂ n₂ s₂ => next h₂ _ ⟨fun b o e => s₂.extBut b o (by rintro rfl; rw [h0L] at e; cases e) (kf b o e), _, n₂, fun y dy e => ?_, fun y v' e => ?_⟩ s₂.extBut ⟨m, n⟩) hp
  · by_cases hy : y = x
    · subst hy
      simp at e; subst e
      exact ⟨v, as, by simp, rds_but n s₂.extBut r⟩
    · have hyx : (y == x) = false := by simpa using hy
      rw [List.lookup_cons, hyx] at e
      obtain ⟨v', as', e1, e2⟩ := rb y dy e
      exact ⟨v', as', by simp [hy, e1], rds_but n s₂.extBut e2⟩
  · have hy : y ≠ x := by rintro rfl; rw [hv] at e; cases e
    simp [hy, rv y v' e]
theorem rds_kbut {L : Addr} {h h' : Heap} {v d as} (n : ∃ m, h.Ns L m) (k : KBut L h h') (r : Rds h v d as) : Rds h' v d as := by
  obtain ⟨m, n⟩ := n
  exact rds_but n k r
theorem assignAll_one {M : Model} {v : Value} {f : Value → Sem Unit} {Q : Unit → Shared → Prop} (h : wpAny M A (f v) Q E s) : wpAny M A (assignAll v [f]) Q E s := h
/- x, y, z = three constants -/
theorem st_assign3 {h0 : Heap} {L : Addr} {bs vs} {x y z : Str} {px py pz p' pos : Pos} {k : Nat} {value : Expr} {rest : List Stmt} {f : Bool} {a b c : PyData} {Q : Flow → Shared → Prop} (g : GF h0 L bs vs s.heap) (h0L : h0.get? L = none) (hh : A.handled = none)
    (hev : EV w A env (GF h0 L bs vs) f value (.tuple [a, b, c])) (hL : env.locals = L) (hx : env.kindOf x = some .local) (hy : env.kindOf y = some .local) (hz : env.kindOf z = some .local)
    (hp : (env.scope.kind == .class || (env.scope.kind == .module && env.locals != env.globals)) = false) (hv : vs.lookup x = none) (hv2 : vs.lookup y = none) (hv3 : vs.lookup z = none)
    (hs : swapsWithSole [.Tuple [.Name x px, .Name y py, .Name z pz] k p'] value pos.line env = pure false) (hw : swappedStores [.Tuple [.Name x px, .Name y py, .Name z pz] k p'] value env = pure none)
    (he : (assignEach [.Tuple [.Name x px, .Name y py, .Name z pz] k p'] env).map (·.2) = [assign (.Tuple [.Name x px, .Name y py, .Name z pz] k p') env])
    (next : ∀ h' tk, GF h0 L ((z, c) :: (y, b) :: (x, a) :: bs) vs h' → wpAny (model thePr w) A (execs rest env) Q E { s with heap := h', toks := tk }) :
    wpAny (model thePr w) A (execs (.Assign [.Tuple [.Name x px, .Name y py, .Name z pz] k p'] value pos :: rest) env) Q E s := by
  refine wpAny_execs_cons (wpAny_Assign_stores (ev_goK (hev s E g) fun v as h₁ tk₁ r k₁ => ?_) hs hw)
  rw [he]
  have g₁ := mono_GF _ _ k₁ g
  refine rdsT3 r fun t nn x1z x2z x3z b1z b2z b3z ho ra rb rc => ?_
  have ht : h₁.IsTuple t _ := ⟨_, ho, rfl, _, rfl⟩
  refine assignAll_one ?_
  refine wpAny_assign_Tuple hh ht rfl rfl fun h₂ he₂ => ?_
  have up₂ : Kf h₁ h₂ := fun c o e => he₂ c o (Nat.ne_of_lt (Heap.lt_size e)) e
  have g₂ := mono_GF _ _ up₂ g₁
  have ra := rds_kp (.of_keep up₂) ra
  have rb := rds_kp (.of_keep up₂) rb
  have rc := rds_kp (.of_keep up₂) rc
  refine assignInOrder_cons (wpAny_assign_Name (wp_store g₂ h0L ra hL hx hp hv fun h₃ tk₃ g₃ k₃ n₃ => ?_))
  have rb := rds_kbut n₃ k₃ rb
  have rc := rds_kbut n₃ k₃ rc
  refine assignInOrder_cons (wpAny_assign_Name (wp_store g₃ h0L rb hL hy hp hv2 fun h₄ tk₄ g₄ k₄ n₄ => ?_))
  have rc := rds_kbut n₄ k₄ rc
  refine assignInOrder_cons (wpAny_assign_Name (wp_store g₄ h0L rc hL hz hp hv3 fun h₅ tk₅ g₅ k₅ n₅ => ?_))
  exact assignInOrder_nil (next _ _ g₅)

theorem TV.inS (hm : Mono G) {f g : Bool} {l r : Expr} {pos : Pos} {x y : Str} (hb : behindInMarks .In r = false) (hl : EV w A env G f l (.str y)) (hr : EV w A env G g r (.str x)) : TV w A env G (.Compare l [.In] [r] pos) (!(Builtin.Str.occurrences x y 0 x.length 1).isEmpty) :=
  .cmp hm hb hl hr fun s E a b as bs _ rx ry => rdsS rx fun _ => rdsS ry fun _ => PyProof.Rows.in_str ⟨rfl, keeps_refl _⟩

noncomputable def sstep (σ : List Nat × Bool × List Nat) (c : Nat) : List Nat × Bool × List Nat :=
  if c = 13 ∨ c = 10 then (if σ.2.2 ++ [c] = [13, 10] then σ.1 else σ.1 ++ [13, 10], true, [c])
  else (σ.1 ++ (if σ.2.1 = true ∧ c = 46 then [46, 46] else [c]), false, [c])
theorem sentGo_eq (x out : List Nat) (f : Bool) (a : List Nat) : sentGo x out f a = (x.foldl sstep (out, f, a)).1 := by
  induction x generalizing out f a with
  | nil => rfl
  | cons c r ih =>
    unfold sentGo
    rw [List.foldl_cons, ih, ih, sstep]
    by_cases h : c = 13 ∨ c = 10
    · rw [if_pos h, if_pos h]
    · rw [if_neg h, if_neg h]
noncomputable def mkS (l : List Nat) : Str := ⟨l.toArray⟩
theorem mkS_append (a b : List Nat) : mkS a ++ mkS b = mkS (a ++ b) := by
  show Str.mk (a.toArray ++ b.toArray) = _
  simp [mkS]
theorem crlf_eq : Str.ofString "\r\n" = mkS [13, 10] := by decide +kernel
noncomputable def okSign (c : Nat) : Prop := c ∈ [97, 46, 10, 13, 45]
theorem occ_sign {c : Nat} (h : okSign c) : (!(Builtin.Str.occurrences (mkS [13, 10]) (mkS [c]) 0 (mkS [13, 10]).length 1).isEmpty) = decide (c = 13 ∨ c = 10) := by
  unfold okSign at h
  simp at h
  rcases h with rfl | rfl | rfl | rfl | rfl <;> decide +kernel
theorem sstate_len : ∀ (x : List Nat) (σ : List Nat × Bool × List Nat), (x.foldl sstep σ).1.length ≤ σ.1.length + 2 * x.length ∧ (x ≠ [] ∨ σ.2.2.length ≤ 1 → (x.foldl sstep σ).2.2.length ≤ 1)
  | [], σ => ⟨by simp, by simp⟩
  | c :: r, σ => by
    rw [List.foldl_cons]
    have h1 := sstate_len r (sstep σ c)
    have h2 : (sstep σ c).1.length ≤ σ.1.length + 2 := by unfold sstep; split <;> simp <;> split <;> simp
    have h3 : (sstep σ c).2.2.length ≤ 1 := by unfold sstep; split <;> simp
    refine ⟨by have := h1.1; simp only [List.length_cons]; omega, fun _ => h1.2 (.inr h3)⟩
end
end Mine
set_option maxRecDepth 100000
set_option linter.all false
namespace Mine
open PySem PySem.Spec PySem.Calls PyProof.Rows PySem.W
section
variable {w : World} {A : Around} {env : Env} {G : Heap → Prop}
theorem TV.nes (hm : Mono G) {f g : Bool} {l r : Expr} {pos : Pos} {x y : Str} (hl : EV w A env G f l (.str x)) (hr : EV w A env G g r (.str y)) (hb : autoParam (behindInMarks .NotEq r = false) byRfl) : TV w A env G (.Compare l [.NotEq] [r] pos) (x != y) :=
  .cmp hm hb hl hr fun s E a b as bs _ rx ry => rdsS rx fun _ => rdsS ry fun _ => PyProof.Rows.ne_str ⟨rfl, keeps_refl _⟩
theorem TV.eqs (hm : Mono G) {f g : Bool} {l r : Expr} {pos : Pos} {x y : Str} (hl : EV w A env G f l (.str x)) (hr : EV w A env G g r (.str y)) (hb : autoParam (behindInMarks .Eq r = false) byRfl) : TV w A env G (.Compare l [.Eq] [r] pos) (x == y) :=
  .cmp hm hb hl hr fun s E a b as bs _ rx ry => rdsS rx fun _ => rdsS ry fun _ => PyProof.Rows.eq_str ⟨rfl, keeps_refl _⟩
end
theorem mkS_beq (a b : List Nat) : (mkS a == mkS b) = decide (a = b) := by
  by_cases h : a = b
  · subst h; simp
  · have : mkS a ≠ mkS b := fun q => h (by
      have := congrArg (fun s : Str => s.cps.toList) q
      simpa [mkS] using this)
    rw [decide_eq_false h]
    simpa using this
section
variable {w : World} {A : Around} {env : Env} {G : Heap → Prop} {s : Shared} {E : Value → Shared → Prop} {Q : Value → Shared → Prop}
noncomputable abbrev sfr (σ : List Nat × Bool × List Nat) (x : List Nat) : List (Str × PyData) := [("out", .str (mkS σ.1)), ("fresh", .bool σ.2.1), ("ahead", .str (mkS σ.2.2)), ("text", .str (mkS x))]
theorem sent_ok {va : Value} {x : List Nat} {as : List Addr} (hA : Room 2 A) (B : Base s.heap) (r : Rds s.heap va (.str (mkS x)) as) (hx : ∀ c ∈ x, okSign c) (hl : x.length ≤ 3)
    (hQ : ∀ u s', Keeps s s' → Q (.str (mkS (sentP x)) u) s') : wpAny (model thePr w) A (PySem.call (.ref 189) [va]) Q E s := by
  refine callFn (binds := [("text", va)]) B.sent B.lim hA.here (fun pm => .of_eq rfl) (by decide) (locs rfl) fun pm h₀ n k => ?_
  have g : GF s.heap s.heap.objs.size [("text", .str (mkS x))] [] h₀ := GF.start n k (fun p hp => by simp at hp; subst hp; exact ⟨_, _, rfl, r⟩) (by intro p hp; simp at hp)
  have hA' := hA.deeper (callEnv (fdOf "_law_sent" (topSt 17) .none .none pm 188) s.heap.objs.size 189)
  generalize A.deeper (callEnv (fdOf "_law_sent" (topSt 17) .none .none pm 188) s.heap.objs.size 189) = A' at hA' ⊢
  have hnL : s.heap.get? s.heap.objs.size = none := fresh_size _
  refine st_assign3 (f := true) (a := .str (mkS [])) (b := .bool true) (c := .str (mkS [])) g hnL hA'.handled ?_ rfl rfl rfl rfl rfl rfl rfl rfl ?_ ?_ rfl fun h₁ tk₁ g₁ => ?_
  · exact EV.tuple (.cons mono_GF (EV.cast (congrArg PyData.str (by decide +kernel)) (EV.str (x := ""))) (.cons mono_GF EV.bool (.cons mono_GF (EV.cast (congrArg PyData.str (by decide +kernel)) (EV.str (x := ""))) .nil))) (by decide)
  · rfl
  · rfl
  have g₁ : GF s.heap s.heap.objs.size (sfr ([], true, []) x) [] h₁ := ⟨g₁.1, g₁.2.sub (fun p hp => by
    simp at hp
    rcases hp with rfl | rfl | rfl | rfl <;> rfl) (fun p hp => by simp at hp)⟩
  refine st_for (G := GF s.heap s.heap.objs.size (sfr ([], true, []) x) []) (xs := (mkS x).cps.toList.map fun c => PyData.str ⟨#[c]⟩) (fun i s' => ∃ h' tk', s' = { s with heap := h', toks := tk' } ∧ GF s.heap s.heap.objs.size (sfr ((x.take i).foldl sstep ([], true, [])) x) [] h')
    (fun b => b = s.heap.objs.size) g₁ (ITN.str hA'.handled ?_ (EV.loc rfl rfl rfl rfl rfl)) ?_ ?_ ?_ ?_ ?_ ?_
  · simp only [mkS, List.all_toArray, List.all_eq_true, decide_eq_true_eq]
    intro c hc
    have := hx c hc
    unfold okSign at this
    simp at this
    omega
  · intro d hd
    obtain ⟨c, _, rfl⟩ := List.mem_map.mp hd
    rfl
  · rintro b rfl
    obtain ⟨m, n, _⟩ := g₁.2
    obtain ⟨o, es, ep, ho, hd, _⟩ := n
    exact ⟨o, ho, fun vs n q => by rw [q] at hd; cases hd⟩
  · rintro s' ⟨h', tk', rfl, k'⟩
    exact ⟨h', tk', rfl, mono_GF _ _ k' g₁⟩
  · rintro i s' h' tk ⟨h2, tk2, rfl, g2⟩ kp old
    refine ⟨h', tk, rfl, fun b o e => old b o ?_ (g2.1 b o e), g2.2.kp kp⟩
    show h₁.get? b ≠ none
    rw [g₁.1 b o e]; simp
  · rintro i d s₁ v E' hd ⟨h2, tk2, rfl, g2⟩ rv
    have hi : i < x.length := by
      have := (List.getElem?_eq_some_iff.mp hd).1
      simpa [mkS] using this
    have hdd : d = .str (mkS [x[i]]) := by
      have : (x.map fun c => PyData.str ⟨#[c]⟩)[i]? = some d := by simpa [mkS] using hd
      simp [hi] at this
      exact this.symm
    subst hdd
    have hc := hx x[i] (List.getElem_mem hi)
    have htk : (x.take (i + 1)).foldl sstep ([], true, []) = sstep ((x.take i).foldl sstep ([], true, [])) x[i] := by
      rw [List.take_succ_eq_append_getElem hi, List.foldl_append]; rfl
    have hlen := sstate_len (x.take i) ([], true, [])
    generalize (x.take i).foldl sstep ([], true, []) = σ at g2 htk hlen
    rw [htk]
    generalize x[i] = c at *
    generalize hLL : s.heap.objs.size = L at *
    have hnE : (erase h2 L).get? L = none := erase_self _ _
    have g2' : GF (erase h2 L) L (sfr σ x) [] h2 := ⟨erase_stays _ _, g2.2⟩
    have fin : ∀ h tk bs, GF (erase h2 L) L bs [] h → (∀ p ∈ sfr (sstep σ c) x, bs.lookup p.1 = some p.2) →
        (∃ h' tk', ({ s with heap := h, toks := tk } : Shared) = { s with heap := h', toks := tk' } ∧ GF s.heap L (sfr (sstep σ c) x) [] h') ∧ KX (fun b => b = L) h2 h := fun h tk bs gg hb =>
      ⟨⟨h, tk, rfl, fun b o e => gg.1 b o (by rw [erase_ne (by rintro rfl; rw [hnL] at e; cases e)]; exact g2.1 b o e), gg.2.sub hb (fun p hp => by simp at hp)⟩, fun b o hb e => gg.1 b o (by rw [erase_ne hb]; exact e)⟩
    have hzl : sizeLine = 16777216 := rfl
    have hσ1 : σ.1.length ≤ 6 := by have := hlen.1; simp at this; omega
    have hσ2 : σ.2.2.length ≤ 1 := hlen.2 (.inr (by simp))
    have hlm : ∀ l : List Nat, (mkS l).length = l.length := fun l => by simp [mkS, Str.length]
    refine wpAny_assign_Name (wp_store g2' hnE rv rfl rfl rfl rfl fun h3 tk3 g3 k3 n3 => ?_)
    refine st_if g3 mono_GF (TV.inS mono_GF rfl (EV.loc (d := .str (mkS [c])) rfl rfl rfl rfl rfl) (EV.cast (congrArg PyData.str crlf_eq) EV.str)) fun s4 g4 k4 => ?_
    obtain ⟨h4, tk4, rfl, k4⟩ := k4
    rw [occ_sign hc]
    by_cases h1 : c = 13 ∨ c = 10
    · rw [decide_eq_true h1]
      have hst : sstep σ c = (if σ.2.2 ++ [c] = [13, 10] then σ.1 else σ.1 ++ [13, 10], true, [c]) := by unfold sstep; rw [if_pos h1]
      refine st_if g4 mono_GF (TV.nes mono_GF (EV.cast (congrArg PyData.str (mkS_append σ.2.2 [c])) (EV.adds mono_GF (by rw [hlm, hlm]; simp; omega) (EV.loc (d := .str (mkS σ.2.2)) rfl rfl rfl rfl rfl) (EV.loc (d := .str (mkS [c])) rfl rfl rfl rfl rfl))) (EV.cast (congrArg PyData.str crlf_eq) EV.str)) fun s5 g5 k5 => ?_
      obtain ⟨h5, tk5, rfl, k5⟩ := k5
      rw [show (mkS (σ.2.2 ++ [c]) != mkS [13, 10]) = !decide (σ.2.2 ++ [c] = [13, 10]) by rw [bne, mkS_beq]]
      by_cases h2' : σ.2.2 ++ [c] = [13, 10]
      · rw [decide_eq_true h2']
        refine wpAny_execs_nil ?_
        refine st_assign g5 hnE EV.bool rfl rfl rfl rfl rfl fun h6 tk6 g6 => wpAny_execs_nil ?_
        refine st_assign (d := .str (mkS [c])) g6 hnE (EV.loc rfl rfl rfl rfl rfl) rfl rfl rfl rfl rfl fun h7 tk7 g7 => wpAny_execs_nil ?_
        refine fin h7 tk7 _ g7 ?_
        rw [hst, if_pos h2']
        intro p hp
        simp at hp
        rcases hp with rfl | rfl | rfl | rfl <;> rfl
      · rw [decide_eq_false h2']
        refine st_assign (f := true) (d := .str (mkS (σ.1 ++ [13, 10]))) g5 hnE (EV.cast (congrArg PyData.str (by rw [crlf_eq, mkS_append])) (EV.adds mono_GF (by rw [hlm]; simp [crlf_eq, hlm]; omega) (EV.loc (d := .str (mkS σ.1)) rfl rfl rfl rfl rfl) EV.str)) rfl rfl rfl rfl rfl fun h5' tk5' g5' => wpAny_execs_nil ?_
        refine st_assign g5' hnE EV.bool rfl rfl rfl rfl rfl fun h6 tk6 g6 => wpAny_execs_nil ?_
        refine st_assign (d := .str (mkS [c])) g6 hnE (EV.loc rfl rfl rfl rfl rfl) rfl rfl rfl rfl rfl fun h7 tk7 g7 => wpAny_execs_nil ?_
        refine fin h7 tk7 _ g7 ?_
        rw [hst, if_neg h2']
        intro p hp
        simp at hp
        rcases hp with rfl | rfl | rfl | rfl <;> rfl
    · rw [decide_eq_false h1]
      have hst : sstep σ c = (σ.1 ++ (if σ.2.1 = true ∧ c = 46 then [46, 46] else [c]), false, [c]) := by unfold sstep; rw [if_neg h1]
      refine st_assign (f := true) (d := .str (mkS (σ.1 ++ (if σ.2.1 = true ∧ c = 46 then [46, 46] else [c])))) g4 hnE ?_ rfl rfl rfl rfl rfl fun h5 tk5 g5 => ?_
      · refine EV.cast (congrArg PyData.str (mkS_append _ _)) (EV.adds mono_GF ?_ (EV.loc (d := .str (mkS σ.1)) rfl rfl rfl rfl rfl) (EV.ite (c := σ.2.1 && (mkS [c] == Str.ofString ".")) mono_GF rfl (TV.and mono_GF (TV.ofEV (EV.loc (d := .bool σ.2.1) rfl rfl rfl rfl rfl)) fun _ => TV.eqs mono_GF (EV.loc (d := .str (mkS [c])) rfl rfl rfl rfl rfl) EV.str) ?_ ?_))
        · rw [hlm, hlm]; split <;> simp <;> omega
        · intro hq
          have : σ.2.1 = true ∧ c = 46 := by
            rw [show Str.ofString "." = mkS [46] by decide +kernel, mkS_beq] at hq
            simpa using hq
          rw [if_pos this]
          exact ⟨true, EV.cast (congrArg PyData.str (by decide +kernel)) (EV.str (x := ".."))⟩
        · intro hq
          have : ¬ (σ.2.1 = true ∧ c = 46) := by
            rw [show Str.ofString "." = mkS [46] by decide +kernel, mkS_beq] at hq
            simpa using hq
          rw [if_neg this]
          exact ⟨false, EV.loc rfl rfl rfl rfl rfl⟩
      · refine st_assign g5 hnE EV.bool rfl rfl rfl rfl rfl fun h6 tk6 g6 => wpAny_execs_nil ?_
        refine st_assign (d := .str (mkS [c])) g6 hnE (EV.loc rfl rfl rfl rfl rfl) rfl rfl rfl rfl rfl fun h7 tk7 g7 => wpAny_execs_nil ?_
        refine fin h7 tk7 _ g7 ?_
        rw [hst]
        intro p hp
        simp at hp
        rcases hp with rfl | rfl | rfl | rfl <;> rfl
  · rintro s' ⟨h', tk', rfl, g'⟩
    have e : (x.take ((mkS x).cps.toList.map fun c => PyData.str ⟨#[c]⟩).length) = x := by simp [mkS]
    rw [e] at g'
    refine st_ret g' (EV.loc (d := .str (mkS (x.foldl sstep ([], true, [])).1)) rfl rfl rfl rfl rfl) fun v s2 cs rv _ k2 => ?_
    first | refine rdsI rv fun _ => ?_ | refine rdsS rv fun _ => ?_ | refine rdsB rv ?_ | refine rdsN rv ?_
    rw [← sentGo_eq]
    exact hQ _ s2 (keeps_trans ⟨h', _, rfl, g'.1⟩ k2)
end
end Mine
set_option maxRecDepth 100000
set_option linter.all false
namespace Mine
open PySem PySem.Spec PySem.Calls PyProof.Rows PySem.W
noncomputable abbrev bmL : List Value := [.type "list", .type "object"]
theorem mro_list : mroOf (.type "list") = pure bmL := by kernel_rfl
theorem lk_list_ga : typeLookup (.type "list") "__getattribute__" = pure (some (.builtin "list.__getattribute__")) := by rw [typeLookup_type, builtinLookup_eq_fast]; kernel_rfl
theorem lk_list_getattr : typeLookup (.type "list") "__getattr__" = pure none := by rw [typeLookup_type, builtinLookup_eq_fast]; kernel_rfl
theorem canon_list_ga : (Manifest.canonical "list.__getattribute__" != "object.__getattribute__") = false := by decide +kernel
theorem store_list : StoreFacts "list" bmL "object.__setattr__" "object" where
  mro := mro_list
  slot := .of (owner := "object") (n := "__setattr__") (by rw [typeLookup_type, builtinLookup_eq_fast]; kernel_rfl) (by decide +kernel) (by decide +kernel) (by decide +kernel)
    (by first | exact .inl (by decide +kernel) | exact .inr (by decide +kernel)) (by rw [isSubtype_type]; kernel_rfl)
  entry := entryFor_of_tree (by kernel_rfl)
  kind := by decide +kernel
  split := by decide +kernel
  hasOwner := by decide +kernel
  args := fun a b c => by unfold argsOk; kernel_rfl
  passes := fun self => by kernel_rfl
theorem entry_list_ga : entryFor table "list.__getattribute__" = some Builtin.«object.__getattribute__» := by exact entryFor_alias (id' := "object.__getattribute__") (by kernel_rfl) (by first | rfl | (unfold String.splitOn; simp +decide [String.splitOnAux])) (by decide +kernel) (by kernel_rfl)
theorem lk_list_init_size : typeLookup (.type "list") "_initial_size" = pure none := by rw [typeLookup_type, builtinLookup_eq_fast]; kernel_rfl

section
variable {prog : Program} {w : World} {A : Around} {E : Value → Shared → Prop} {h : Heap} {g : Array GenState} {d : Drawn} {t : Nat} {os : OsState}
variable {nm q : Str} {C N x : Addr} {bs : List Value} {sn : List Str} {sub : List Value} {ab : Bool} {col : Option Bool} {dd : Option Addr} {k0 k1 k2 k3 k5 : Option Value} {newId : String}
  {mN mA : Str → Option Value} {name : Str} {v : Value}
theorem load_getattr {tk : Tok} {Q : Fin → Shared → Prop}
    (hC : h.get? C = some (excClassObj nm q C N bs bmL true sn sub ab col dd k0 k1 k2 k3 k5 newId)) (hn : h.Ns N mN) (hna : mN name = none)
    (hB : typeLookup (.type "list") name = pure none) (I : h.Inst x C mA) (hv : mA name = some v) (hq : Q (.done (.ret v)) ⟨h, g, d, t, os⟩) :
    wpAny (model prog w) A (Builtin.«object.__getattribute__» ⟨[.ref x, .str name tk], []⟩) Q E ⟨h, g, d, t, os⟩ := by
  obtain ⟨o, hx, hc, hnc, hd⟩ := I
  rcases hd with ⟨_, hmA⟩ | ⟨dx, hdx, hne, hns⟩
  · rw [hmA name] at hv; cases hv
  unfold Builtin.«object.__getattribute__»
  repeat (first | (with_reducible refine wpAny_loadPart_at hx ?_; rw [hc]) | (with_reducible refine wpAny_typeLookup_exc hC hn mro_list hB ?_; rw [hna]) | wp_step)
  split
  · rename_i c hcd
    exact absurd hcd (hnc c)
  unfold instanceDict
  repeat (first | (with_reducible refine wpAny_loadPart_at hx ?_; rw [hc]) | with_reducible refine wpAny_loadPart_at hC ?_ | wp_step)
  rw [hdx]
  repeat (first | (with_reducible refine wpAny_nsGet hns.ns ?_; rw [hv]) | wp_step)
  exact hq

theorem args_list_ga (a b : Value) : argsOk "list.__getattribute__" ⟨[a, b], []⟩ := by unfold argsOk; kernel_rfl
theorem slot_list_ga : Slot "list" "__getattribute__" "list.__getattribute__" :=
  .of (owner := "list") (n := "__getattribute__") (by rw [typeLookup_type, builtinLookup_eq_fast]; kernel_rfl) (by decide +kernel) (by decide +kernel) (by decide +kernel)
    (by first | exact .inl (by decide +kernel) | exact .inr (by decide +kernel)) (by rw [isSubtype_type]; kernel_rfl)
end
end Mine
set_option maxRecDepth 100000
set_option linter.all false
namespace Mine
open PySem PySem.Spec PySem.Calls PyProof.Rows PySem.W
section
variable {prog : Program} {w : World} {A : Around} {E : Value → Shared → Prop} {h : Heap} {g : Array GenState} {d : Drawn} {t : Nat} {os : OsState}
variable {nm q : Str} {C N x : Addr} {bs : List Value} {sn : List Str} {sub : List Value} {ab : Bool} {col : Option Bool} {dd : Option Addr} {k0 k1 k2 k3 k5 : Option Value} {newId : String}
  {mN mA : Str → Option Value} {name : Str} {v : Value}
theorem typeOf_ref {M : Model} {s : Shared} {o : Obj} {Q : Value → Shared → Prop} (hx : s.heap.get? x = some o) (hq : Q o.cls s) : wpAny M A (typeOf (.ref x)) Q E s := by
  unfold typeOf
  exact wpAny_bind (wpAny_loadPart hx (wpAny_pure hq))
theorem kind_list_ga : builtinKind "list.__getattribute__" = some .slot := by decide +kernel
theorem split_list_ga : splitId "list.__getattribute__" = some ("list", "__getattribute__") := by decide +kernel
theorem check_ga {M : Model} {o : Obj} {nameV : Value} {Q : Unit → Shared → Prop}
    (hC : h.get? C = some (excClassObj nm q C N bs bmL true sn sub ab col dd k0 k1 k2 k3 k5 newId)) (hx : h.get? x = some o) (hc : o.cls = .ref C) (hq : Q () ⟨h, g, d, t, os⟩) :
    wpAny M A (checkBuiltinCall "list.__getattribute__" ⟨[.ref x, nameV], []⟩) Q E ⟨h, g, d, t, os⟩ := by
  have hcB : (Value.ref C :: bmL).contains (.type "list") = true := by rw [List.contains_cons]; simp
  have hk := kind_list_ga
  have hsplit := split_list_ga
  have ha := args_list_ga (.ref x) nameV
  simp only [checkBuiltinCall, hk, hsplit]
  refine wpAny_bind ?_
  · unfold isInstance
    repeat (first | (with_reducible refine wpAny_loadPart_at hx ?_; rw [hc]) | (with_reducible refine wpAny_isSubtype_exc hC ?_; rw [hcB]) | wp_step)
    exact hq
theorem call_list_ga {tk : Tok}
    (hC : h.get? C = some (excClassObj nm q C N bs bmL true sn sub ab col dd k0 k1 k2 k3 k5 newId)) (hn : h.Ns N mN) (hna : mN name = none)
    (hB : typeLookup (.type "list") name = pure none) (I : h.Inst x C mA) (hv : mA name = some v) :
    wpAny (model prog w) A (call (.builtin "list.__getattribute__") [.ref x, .str name tk]) (fun v' s' => v' = v ∧ s' = ⟨h, g, d, t, os⟩) (fun _ _ => False) ⟨h, g, d, t, os⟩ := by
  obtain ⟨o, hx, hc, _⟩ := id I
  refine wpAny_call (codeAny_call_builtin slot_list_ga.plain entry_list_ga ?_)
  refine check_ga hC hx hc ?_
  refine load_getattr hC hn hna hB I hv ?_
  exact ⟨rfl, rfl⟩
theorem load_by {tk : Tok} {fill expr : Bool} {Q : Value → Shared → Prop}
    (hC : h.get? C = some (excClassObj nm q C N bs bmL true sn sub ab col dd k0 k1 k2 k3 k5 newId)) (hn : h.Ns N mN) (hng : mN "__getattribute__" = none) (hnh : mN "__getattr__" = none) (hna : mN name = none)
    (hB : typeLookup (.type "list") name = pure none) (I : h.Inst x C mA) (hv : mA name = some v) (hh : handedOut v = pure v) (hq : Q v ⟨h, g, d, t, os⟩) :
    wpAny (model prog w) A (getAttrBy (.ref x) (.str name tk) fill expr) Q E ⟨h, g, d, t, os⟩ := by
  obtain ⟨o, hx, hc, _⟩ := id I
  have f3 := slot_list_ga.bind (.ref x)
  have hx0 : (expr && onTheHeap (Value.builtin "list.__getattribute__")) = false := by cases expr <;> rfl
  have hx2 : (Value.builtin "list.__getattribute__" == Value.builtin "object.__getattribute__") = false := by decide +kernel
  have hx1 : (onTheHeap (Value.ref C) && Value.builtin "list.__getattribute__" == Value.builtin "object.__getattribute__") = false := by rw [hx2]; rfl
  unfold getAttrBy
  refine wpAny_holding (wpAny_bind (typeOf_ref hx ?_))
  rw [hc]
  refine wpAny_bind (wpAny_typeLookup_exc hC hn mro_list lk_list_ga ?_)
  rw [hng]
  dsimp only
  rw [if_neg (by rw [hx1]; decide)]
  unfold getAttrByItsOwn hookBefore
  rw [show onTheHeap (Value.ref C) = true from rfl, if_pos rfl]
  refine wpAny_bind (wpAny_typeLookup_exc hC hn mro_list lk_list_getattr ?_)
  rw [hnh]
  dsimp only
  refine wpAny_bind (wpAny_attempt (wpAny_holding ?_))
  unfold callGetattribute
  rw [if_neg (by rw [hx0]; decide)]
  unfold boundAndCalled
  rw [f3]
  refine wpAny_bind (wpAny_pure ?_)
  refine wpAny_mono (call_list_ga hC hn hna hB I hv) (fun v' s' h' => ?_) fun _ _ x => x.elim
  obtain ⟨rfl, rfl⟩ := h'
  show wpAny _ _ (handedOut v') _ _ _
  rw [hh]
  exact wpAny_pure hq
/- x.name, an attribute of the object -/
theorem load_attrL {expr : Bool} {Q : Value → Shared → Prop} (hz : name.length ≤ sizeLine)
    (hC : h.get? C = some (excClassObj nm q C N bs bmL true sn sub ab col dd k0 k1 k2 k3 k5 newId)) (hn : h.Ns N mN) (hng : mN "__getattribute__" = none) (hnh : mN "__getattr__" = none) (hna : mN name = none)
    (hB : typeLookup (.type "list") name = pure none) (I : h.Inst x C mA) (hv : mA name = some v) (hh : handedOut v = pure v) (hq : Q v ⟨h, g, d, t + 1, os⟩) :
    wpAny (model prog w) A (getAttr (.ref x) name expr) Q E ⟨h, g, d, t, os⟩ := by
  unfold getAttr
  refine wpAny_bind ?_
  unfold mkText
  exact wpAny_bind (wpAny_fresh (wpAny_pure (load_by hC hn hng hnh hna hB I hv hh hq)))
/- x.name(..), a def of the class -/
theorem method_ofL {pl : Sem Bool} {f : Addr} {of : Obj} {Q : Value × List Value → Shared → Prop}
    (hC : h.get? C = some (excClassObj nm q C N bs bmL true sn sub ab col dd k0 k1 k2 k3 k5 newId)) (hn : h.Ns N mN) (hng : mN "__getattribute__" = none) (hnh : mN "__getattr__" = none)
    (hf : mN name = some (.ref f)) (hfo : h.get? f = some of) (hfc : of.cls = .type "function") {y : Option Value} (hB : typeLookup (.type "list") name = pure y)
    (I : h.Inst x C mA) (hsh : mA name = none) (hq : Q (.ref f, [.ref x]) ⟨h, g, d, t, os⟩) :
    wpAny (model prog w) A (getMethod (.ref x) name pl) Q E ⟨h, g, d, t, os⟩ := by
  obtain ⟨o, hx, hc, hnc, hd⟩ := I
  have hcan := canon_list_ga
  unfold getMethod specialOf
  refine wpAny_bind (wpAny_bind (typeOf_ref hx ?_))
  rw [hc]
  refine wpAny_typeLookup_exc hC hn mro_list lk_list_ga ?_
  rw [hng]
  dsimp only
  rw [if_neg (by rw [hcan]; decide)]
  refine wpAny_bind (wpAny_bind (typeOf_ref hx ?_))
  rw [hc]
  refine wpAny_typeLookup_exc hC hn mro_list lk_list_getattr ?_
  rw [hnh]
  dsimp only
  rw [if_neg (by decide)]
  refine wpAny_bind (wpAny_bind (typeOf_ref hx ?_))
  rw [hc]
  refine wpAny_typeLookup_exc hC hn mro_list hB ?_
  rw [hf]
  dsimp only
  refine wpAny_bind (typeOf_ref hfo ?_)
  rw [hfc]
  rw [if_neg (by decide)]
  refine wpAny_bind (wpAny_loadPart hx ?_)
  rcases hd with ⟨hdn, _⟩ | ⟨dx, hdx, _, hns⟩
  · rw [hdn]
    exact wpAny_bind (wpAny_rule (wpAny_pure hq))
  · rw [hdx]
    refine wpAny_bind (wpAny_nsGet hns.ns ?_)
    rw [hsh]
    exact wpAny_bind (wpAny_rule (wpAny_pure hq))
end
end Mine
set_option maxRecDepth 100000
set_option linter.all false
namespace Mine
open PySem PySem.Spec PySem.Calls PyProof.Rows PySem.W
section
variable {prog : Program} {w : World} {A : Around} {E : Value → Shared → Prop} {h : Heap} {g : Array GenState} {d : Drawn} {t : Nat} {os : OsState}
variable {nm q : Str} {C N x : Addr} {bs : List Value} {sn : List Str} {sub : List Value} {ab : Bool} {col : Option Bool} {dd : Option Addr} {k0 k1 k2 k3 k5 : Option Value} {newId : String}
  {mN mA : Str → Option Value} {name : Str} {v : Value}
/- x.name(..), a method of list -/
theorem method_bL {pl : Sem Bool} {id : String} {Q : Value × List Value → Shared → Prop}
    (hC : h.get? C = some (excClassObj nm q C N bs bmL true sn sub ab col dd k0 k1 k2 k3 k5 newId)) (hn : h.Ns N mN) (hng : mN "__getattribute__" = none) (hnh : mN "__getattr__" = none)
    (hf : mN name = none) (hty : typeOf (.builtin id) = pure (.type "method_descriptor")) (hB : typeLookup (.type "list") name = pure (some (.builtin id)))
    (I : h.Inst x C mA) (hsh : mA name = none) (hq : Q (.builtin id, [.ref x]) ⟨h, g, d, t, os⟩) :
    wpAny (model prog w) A (getMethod (.ref x) name pl) Q E ⟨h, g, d, t, os⟩ := by
  obtain ⟨o, hx, hc, hnc, hd⟩ := I
  have hcan := canon_list_ga
  unfold getMethod specialOf
  refine wpAny_bind (wpAny_bind (typeOf_ref hx ?_))
  rw [hc]
  refine wpAny_typeLookup_exc hC hn mro_list lk_list_ga ?_
  rw [hng]
  dsimp only
  rw [if_neg (by rw [hcan]; decide)]
  refine wpAny_bind (wpAny_bind (typeOf_ref hx ?_))
  rw [hc]
  refine wpAny_typeLookup_exc hC hn mro_list lk_list_getattr ?_
  rw [hnh]
  dsimp only
  rw [if_neg (by decide)]
  refine wpAny_bind (wpAny_bind (typeOf_ref hx ?_))
  rw [hc]
  refine wpAny_typeLookup_exc hC hn mro_list hB ?_
  rw [hf]
  dsimp only
  refine wpAny_bind (wpAny_of_eq hty ?_)
  rw [if_neg (by decide)]
  refine wpAny_bind (wpAny_loadPart hx ?_)
  rcases hd with ⟨hdn, _⟩ | ⟨dx, hdx, _, hns⟩
  · rw [hdn]
    exact wpAny_bind (wpAny_rule (wpAny_pure hq))
  · rw [hdx]
    refine wpAny_bind (wpAny_nsGet hns.ns ?_)
    rw [hsh]
    exact wpAny_bind (wpAny_rule (wpAny_pure hq))
end

/- the class _Accumulator -/
noncomputable def accNs : List (Str × Addr) := [("__init__", 91), ("push", 98), ("pop_from", 106), ("pop", 114), ("__len__", 121), ("__str__", 128), ("is_onlyws", 143), ("part_count", 151)]
noncomputable def accFree : List Str := ["__getattribute__", "__getattr__", "__setattr__", "_initial_size", "append", "__getitem__", "__setitem__", "__iter__", "__bool__", "__new__", "__eq__", "__ne__", "__del__", "__class__"]
structure AccAt (h : Heap) : Prop where
  cls : ∃ nm q sn sub ab col dd k0 k1 k2 k3 k5, h.get? 154 = some (excClassObj nm q 154 153 [.type "list"] bmL true sn sub ab col dd k0 k1 k2 k3 k5 "list.__new__")
  ns : ∃ mN, h.Ns 153 mN ∧ (∀ n a, accNs.lookup n = some a → mN n = some (.ref a)) ∧ (∀ n ∈ accFree, mN n = none)
  cell : h.IsCell 78 (some (.ref 154))
  qn : ∃ o cd, h.get? 154 = some o ∧ o.data = .cls cd ∧ cd.qualname = "_Accumulator"
/- an _Accumulator: first size st, parts ps -/
noncomputable def PileAt (h : Heap) (p : Addr) (st : Int) (ps : List PyData) : Prop :=
  ∃ o items n dx u, h.get? p = some o ∧ o.cls = .ref 154 ∧ o.data = .seq items n ∧ o.slots = #[] ∧ o.dict = some dx ∧ dx ≠ p ∧ h.Ns1 dx (fun y => if y = "_initial_size" then some (.int st u) else none) ∧ RdsAll h items.toList ps []
theorem PileAt.inst {h : Heap} {p : Addr} {st : Int} {ps : List PyData} (P : PileAt h p st ps) : ∃ u, h.Inst p 154 (fun y => if y = "_initial_size" then some (.int st u) else none) := by
  obtain ⟨o, items, n, dx, u, ho, hc, hd, _, hdx, hne, hns, _⟩ := P
  exact ⟨u, o, ho, hc, (fun c q => by rw [hd] at q; cases q), .inr ⟨dx, hdx, hne, hns⟩⟩
theorem AccAt.kp {h h' : Heap} (k : Kp h h') (x : AccAt h) : AccAt h' where
  cls := by
    obtain ⟨nm, q, sn, sub, ab, col, dd, k0, k1, k2, k3, k5, e⟩ := x.cls
    exact ⟨nm, q, sn, sub, ab, col, dd, k0, k1, k2, k3, k5, k _ _ e rfl⟩
  ns := by obtain ⟨mN, n, r⟩ := x.ns; exact ⟨mN, ns_kp k n, r⟩
  cell := cell_kp k x.cell
  qn := by
    obtain ⟨o, cd, ho, hd, e⟩ := x.qn
    exact ⟨o, cd, k _ _ ho (by simp [tabby, hd]), hd, e⟩
theorem lk_append : typeLookup (.type "list") "append" = pure (some (.builtin "list.append")) := PySem.slot_list_append.lookup
section
variable {w : World} {A : Around} {E : Value → Shared → Prop} {s : Shared} {Q : Value → Shared → Prop}
theorem kind_append : builtinKind "list.append" = some .method := by decide +kernel
theorem split_append : splitId "list.append" = some ("list", "append") := by decide +kernel
theorem check_append {M : Model} {nm q : Str} {C N x : Addr} {bs : List Value} {sn : List Str} {sub : List Value} {ab : Bool} {col : Option Bool} {dd : Option Addr} {k0 k1 k2 k3 k5 : Option Value} {newId : String}
    {h : Heap} {g : Array GenState} {d : Drawn} {t : Nat} {os : OsState} {o : Obj} {v : Value} {Q : Unit → Shared → Prop}
    (hC : h.get? C = some (excClassObj nm q C N bs bmL true sn sub ab col dd k0 k1 k2 k3 k5 newId)) (hx : h.get? x = some o) (hc : o.cls = .ref C) (hq : Q () ⟨h, g, d, t, os⟩) :
    wpAny M A (checkBuiltinCall "list.append" ⟨[.ref x, v], []⟩) Q E ⟨h, g, d, t, os⟩ := by
  have hcB : (Value.ref C :: bmL).contains (.type "list") = true := by rw [List.contains_cons]; simp
  have hk := kind_append
  have hsplit := split_append
  have ha := args_list_append (.ref x) v
  simp only [checkBuiltinCall, hk, hsplit]
  refine wpAny_bind ?_
  · unfold isInstance
    repeat (first | (with_reducible refine wpAny_loadPart_at hx ?_; rw [hc]) | (with_reducible refine wpAny_isSubtype_exc hC ?_; rw [hcB]) | wp_step)
    exact hq
end

noncomputable def cBody : Stmt → List Stmt | .ClassDef _ _ _ b .. => b | _ => []
noncomputable def mSt (i : Nat) : Stmt := (cBody (topSt 9)).getD i (.Pass ⟨0, 0, 0, 0⟩)
noncomputable abbrev fdM (nm q : Str) (st : Stmt) (dV pm ct : Value) (c : Addr) (cl : List (Str × Addr)) : FuncData :=
  { name := nm, qualname := q, params := dArgs st, body := .stmts (dBody st), scope := dScope st, globals := mainGlobals, closure := cl, defaults := dV, kwdefaults := .none, doc := .none, pyModule := pm, annotations := none, code := .ref c, closureTuple := ct, builtins := builtinsNs }
noncomputable def MAt (h : Heap) (a : Addr) (nm q : Str) (st : Stmt) (dV : Value) (c : Addr) (cl : List (Str × Addr)) : Prop := (∃ o pm ct, h.get? a = some o ∧ o.cls = .type "function" ∧ o.data = .func (fdM nm q st dV pm ct c cl)) ∧ CdAt h c q
theorem MAt.kp {h h' : Heap} {a : Addr} {nm q : Str} {st : Stmt} {dV : Value} {c : Addr} {cl} (k : Kp h h') (x : MAt h a nm q st dV c cl) : MAt h' a nm q st dV c cl := by
  obtain ⟨⟨o, pm, ct, ho, hc, hd⟩, y⟩ := x
  exact ⟨⟨o, pm, ct, k _ _ ho (tabby_func hd), hc, hd⟩, y.kp k⟩
section
variable {w : World} {A : Around} {E : Value → Shared → Prop} {s : Shared} {Q : Value → Shared → Prop}
theorem callM {a c : Addr} {nm q : Str} {st : Stmt} {dV : Value} {cl : List (Str × Addr)} {args : List Value} {kw : List (Str × Value)} {binds : List (Str × Value)} (F : MAt s.heap a nm q st dV c cl) (lim : s.heap.NoLimit) (hroom : A.depth < recursionLimit)
    (hbind : ∀ pm ct, BindsTo s (fdM nm q st dV pm ct c cl) ⟨args, kw⟩ binds) (hcell : ∀ x ∈ (dScope st).names, x.2 ≠ .cell) (hloc : ∀ x ∈ binds, (dScope st).names.lookup x.1 = some .local)
    (body : ∀ pm ct h₀, h₀.Ns s.heap.objs.size (fun x => binds.reverse.lookup x) → Kf s.heap h₀ →
      wpAny (model thePr w) (A.deeper (callEnv (fdM nm q st dV pm ct c cl) s.heap.objs.size a)) (execs (dBody st) (callEnv (fdM nm q st dV pm ct c cl) s.heap.objs.size a)) (fun f s' => Q (match f with | .ret v => v | _ => .none) s') (fun _ _ => False) { s with heap := h₀, toks := s.toks + binds.length })
    (hco : autoParam ((dScope st).isCoroutine = false) byRfl) (hgen : autoParam ((dScope st).isGenerator = false) byRfl) (hk : autoParam ((dScope st).kind = .function) byRfl) :
    wpAny (model thePr w) A (PySem.call (.ref a) args kw) Q E s := by
  obtain ⟨⟨o, pm, ct, ho, _, hd⟩, hc⟩ := F
  refine wpAny_call (codeAny_call_def hroom ho hd lim hc.rec' rfl (hbind pm ct) hcell hloc (fun h₀ n k => ?_) hco hgen hk)
  exact wpAny_mono (body pm ct h₀ n k) (fun _ _ x => x) fun _ _ x => x.elim
end
end Mine
set_option maxRecDepth 100000
set_option linter.all false
namespace Mine
open PySem PySem.Spec PySem.Calls PyProof.Rows PySem.W
section
variable {w : World} {A : Around} {E : Value → Shared → Prop} {s : Shared} {Q : Value → Shared → Prop}
theorem rdsAll_pile {p : Addr} {h h' : Heap} {o : Obj} {items : List Value} {ps : List PyData} (ho : h.get? p = some o) (hc : o.cls = .ref 154) (k : KBut p h h') (r : RdsAll h items ps []) (hf : flatAll ps = true) : RdsAll h' items ps [] :=
  rdsAll_kt (fun b vs n e => k b _ (by rintro rfl; rw [e] at ho; cases ho; cases hc) e) r hf
theorem ns1_but {p dx : Addr} {h h' : Heap} {m : Str → Option Value} (k : KBut p h h') (hne : dx ≠ p) (n : h.Ns1 dx m) : h'.Ns1 dx m := by
  exact n.at fun o e => k dx o hne e
theorem wp_updP {M : Model} {p : Addr} {st : Int} {ps ps' : List PyData} {f : Array Value → Array Value} {Q : Unit → Shared → Prop} (P : PileAt s.heap p st ps) (hz : ps.length ≤ 1000)
    (hf : ∀ items : Array Value, items.size = ps.length → RdsAll s.heap items.toList ps [] → RdsAll s.heap (f items).toList ps' [] ∧ (f items).size ≤ 1001) (hfl : flatAll ps' = true)
    (hQ : ∀ h', PileAt h' p st ps' → KBut p s.heap h' → Q () { s with heap := h' }) : wpAny M A (updateSeq p f) Q E s := by
  obtain ⟨o, items, n, dx, u, ho, hc, hdd, hsl, hdx, hne, hns, r⟩ := P
  have hsz : items.size = ps.length := by have := readsAll_length r; rwa [Array.length_toList] at this
  have h1000 : 1000 ≤ sizeLine := by decide
  obtain ⟨r', hz'⟩ := hf items hsz r
  have kb : KBut p s.heap (s.heap.update p (Obj.mapSeq f)) := (Heap.SameBut.update ..).extBut
  refine wpAny_updateSeq ho hdd (hQ _ ?_ kb) (by omega) (by omega)
  obtain ⟨a, b, c, d'⟩ := o
  simp only at hdd hc hsl hdx
  subst hdd hc hsl hdx
  exact ⟨_, f items, _, dx, u, Heap.get?_update_self _ ho rfl, rfl, rfl, rfl, rfl, hne, ns1_but kb hne hns, rdsAll_pile ho rfl kb r' hfl⟩
theorem call_appendP {p : Addr} {st : Int} {ps : List PyData} {v : Value} {d : PyData} (C : AccAt s.heap) (P : PileAt s.heap p st ps) (hf : flatAll ps = true) (hz : ps.length ≤ 1000) (rv : Rds s.heap v d []) (hd : flat d = true)
    (hQ : ∀ h', PileAt h' p st (ps ++ [d]) → KBut p s.heap h' → Q .none { s with heap := h' }) : wpAny (model thePr w) A (PySem.call (.builtin "list.append") [.ref p, v]) Q E s := by
  obtain ⟨o, items, n, dx, u, ho, hc, _⟩ := id P
  obtain ⟨nm, q, sn, sub, ab, col, dd, k0, k1, k2, k3, k5, e⟩ := C.cls
  obtain ⟨hp, g, dr, tk, os⟩ := s
  refine wpAny_call (codeAny_call_builtin PySem.slot_list_append.plain PySem.entry_list_append (check_append e ho hc ?_))
  show wpAny _ _ (updateSeq p (·.push v) >>= fun _ => ret .none) _ _ _
  refine wpAny_bind (wp_updP P hz (fun items hs r => ?_) (ps' := ps ++ [d]) (flatAll_append hf (by simp [flatAll, hd])) fun h' P' k' => wpAny_pure (hQ h' P' k'))
  refine ⟨?_, by simp; omega⟩
  rw [Array.toList_push]
  exact rdsAll_snoc rv r

/- push -/
theorem push_ok {p : Addr} {st : Int} {ps : List PyData} {va vb : Value} {a b : Str} {as bs : List Addr} (hA : Room 2 A) (B : Base s.heap) (C : AccAt s.heap) (F : MAt s.heap 98 "push" "_Accumulator.push" (mSt 1) .none 97 []) (P : PileAt s.heap p st ps) (hf : flatAll ps = true) (hz : ps.length ≤ 1000)
    (ra : Rds s.heap va (.str a) as) (rb : Rds s.heap vb (.str b) bs)
    (hQ : ∀ h' tk, PileAt h' p st (ps ++ [.tuple [.str a, .str b]]) → KBut p s.heap h' → Q .none { s with heap := h', toks := tk }) :
    wpAny (model thePr w) A (PySem.call (.ref 98) [.ref p, va, vb]) Q E s := by
  refine callM (binds := [("self", .ref p), ("fws", va), ("string", vb)]) F B.lim hA.here (fun pm ct => .of_eq rfl) (by decide) (locs rfl) fun pm ct h₀ n k => ?_
  have g : GF s.heap s.heap.objs.size [("fws", .str a), ("string", .str b)] [("self", .ref p)] h₀ := GF.start n k (fun q hq => by
    simp at hq
    rcases hq with rfl | rfl
    · exact ⟨_, _, rfl, ra⟩
    · exact ⟨_, _, rfl, rb⟩) (by intro q hq; simp at hq; subst hq; rfl)
  have hPk : ∀ h, Kf s.heap h → PileAt h p st ps := fun h k => by
    obtain ⟨o, items, n, dx, u, ho, hc, hdd, hsl, hdx, hne, hns, r⟩ := P
    exact ⟨o, items, n, dx, u, k _ _ ho, hc, hdd, hsl, hdx, hne, ns1_but (p := p) (fun b o _ e => k b o e) hne hns, rdsAll_kp (.of_keep k) r⟩
  refine wpAny_execs_cons (wpAny_Expr (MethodCall_ (pl := _) (NV.loc (v := .ref p) rfl rfl rfl rfl rfl _ _ _ _ _ _ g ?_) rfl))
  obtain ⟨u, I⟩ := (hPk h₀ k).inst
  have C₀ := C.kp (.of_keep k)
  obtain ⟨nm, q, sn, sub, ab, col, dd, k0, k1, k2, k3, k5, e⟩ := C₀.cls
  obtain ⟨mN, nN, _, hfree⟩ := C₀.ns
  refine method_bL e nN (hfree _ (by decide)) (hfree _ (by decide)) (hfree _ (by decide)) PySem.F.type_list_append lk_append I (by rw [if_neg (by decide)]) ?_
  refine callWith_method1 (evs_goK (EVs.cons (f := false) mono_GF (EV.tuple (ds := [.str a, .str b]) (.cons mono_GF (EV.loc rfl rfl rfl rfl rfl) (.cons mono_GF (EV.loc rfl rfl rfl rfl rfl) .nil)) (show 2 ≤ sizeLine by decide)) .nil rfl _ _ g) fun vs as' h₂ tk₂ rv k₂ => ?_) rfl rfl
  refine rds1 rv fun x1z b1z r1 => ?_
  have := rds_flat r1 rfl
  subst this
  exact call_appendP (C₀.kp (.of_keep k₂)) (hPk h₂ (k.trans k₂)) hf hz r1 rfl fun h' P' k' => wpAny_execs_nil (hQ h' _ P' (KBut.pre (k.trans k₂) k'))
end
end Mine
set_option maxRecDepth 100000
set_option linter.all false
namespace Mine
open PySem PySem.Spec PySem.Calls PyProof.Rows PySem.W
section
variable {w : World} {A : Around} {E : Value → Shared → Prop} {s : Shared} {Q : Value → Shared → Prop}
theorem kind_getitem : builtinKind "list.__getitem__" = some .method := by decide +kernel
theorem split_getitem : splitId "list.__getitem__" = some ("list", "__getitem__") := by decide +kernel
theorem check_getitem {M : Model} {nm q : Str} {C N x : Addr} {bs : List Value} {sn : List Str} {sub : List Value} {ab : Bool} {col : Option Bool} {dd : Option Addr} {k0 k1 k2 k3 k5 : Option Value} {newId : String}
    {h : Heap} {g : Array GenState} {d : Drawn} {t : Nat} {os : OsState} {o : Obj} {v0 : Value} {Q : Unit → Shared → Prop}
    (hC : h.get? C = some (excClassObj nm q C N bs bmL true sn sub ab col dd k0 k1 k2 k3 k5 newId)) (hx : h.get? x = some o) (hc : o.cls = .ref C) (hq : Q () ⟨h, g, d, t, os⟩) :
    wpAny M A (checkBuiltinCall "list.__getitem__" ⟨[.ref x, v0], []⟩) Q E ⟨h, g, d, t, os⟩ := by
  have hcB : (Value.ref C :: bmL).contains (.type "list") = true := by rw [List.contains_cons]; simp
  have hk := kind_getitem
  have hsplit := split_getitem
  have ha := PySem.F.args_list_getitem_2 (.ref x) v0
  simp only [checkBuiltinCall, hk, hsplit]
  refine wpAny_bind ?_
  · unfold isInstance
    repeat (first | (with_reducible refine wpAny_loadPart_at hx ?_; rw [hc]) | (with_reducible refine wpAny_isSubtype_exc hC ?_; rw [hcB]) | wp_step)
    exact hq
theorem kind_setitem : builtinKind "list.__setitem__" = some .slot := by decide +kernel
theorem split_setitem : splitId "list.__setitem__" = some ("list", "__setitem__") := by decide +kernel
theorem check_setitem {M : Model} {nm q : Str} {C N x : Addr} {bs : List Value} {sn : List Str} {sub : List Value} {ab : Bool} {col : Option Bool} {dd : Option Addr} {k0 k1 k2 k3 k5 : Option Value} {newId : String}
    {h : Heap} {g : Array GenState} {d : Drawn} {t : Nat} {os : OsState} {o : Obj} {v0 v1 : Value} {Q : Unit → Shared → Prop}
    (hC : h.get? C = some (excClassObj nm q C N bs bmL true sn sub ab col dd k0 k1 k2 k3 k5 newId)) (hx : h.get? x = some o) (hc : o.cls = .ref C) (hq : Q () ⟨h, g, d, t, os⟩) :
    wpAny M A (checkBuiltinCall "list.__setitem__" ⟨[.ref x, v0, v1], []⟩) Q E ⟨h, g, d, t, os⟩ := by
  have hcB : (Value.ref C :: bmL).contains (.type "list") = true := by rw [List.contains_cons]; simp
  have hk := kind_setitem
  have hsplit := split_setitem
  have ha := PySem.F.args_list_setitem_3 (.ref x) v0 v1
  simp only [checkBuiltinCall, hk, hsplit]
  refine wpAny_bind ?_
  · unfold isInstance
    repeat (first | (with_reducible refine wpAny_loadPart_at hx ?_; rw [hc]) | (with_reducible refine wpAny_isSubtype_exc hC ?_; rw [hcB]) | wp_step)
    exact hq
theorem kind_lpop : builtinKind "list.pop" = some .method := by decide +kernel
theorem kind_liter : builtinKind "list.__iter__" = some .slot := by decide +kernel
theorem split_liter : splitId "list.__iter__" = some ("list", "__iter__") := by decide +kernel
theorem check_liter {M : Model} {nm q : Str} {C N x : Addr} {bs : List Value} {sn : List Str} {sub : List Value} {ab : Bool} {col : Option Bool} {dd : Option Addr} {k0 k1 k2 k3 k5 : Option Value} {newId : String}
    {h : Heap} {g : Array GenState} {d : Drawn} {t : Nat} {os : OsState} {o : Obj} {vv : Value} {Q : Unit → Shared → Prop}
    (hC : h.get? C = some (excClassObj nm q C N bs bmL true sn sub ab col dd k0 k1 k2 k3 k5 newId)) (hx : h.get? x = some o) (hc : o.cls = .ref C) (hq : Q () ⟨h, g, d, t, os⟩) :
    wpAny M A (checkBuiltinCall "list.__iter__" ⟨[.ref x], []⟩) Q E ⟨h, g, d, t, os⟩ := by
  have hcB : (Value.ref C :: bmL).contains (.type "list") = true := by rw [List.contains_cons]; simp
  have hk := kind_liter
  have hsplit := split_liter
  have ha := PySem.F.args_list_iter_1 (.ref x)
  simp only [checkBuiltinCall, hk, hsplit]
  refine wpAny_bind ?_
  · unfold isInstance
    repeat (first | (with_reducible refine wpAny_loadPart_at hx ?_; rw [hc]) | (with_reducible refine wpAny_isSubtype_exc hC ?_; rw [hcB]) | wp_step)
    exact hq

theorem specP {M : Model} {p : Addr} {st : Int} {ps : List PyData} {name : Str} {r : Option Value} {Q : Option Value → Shared → Prop} (C : AccAt s.heap) (P : PileAt s.heap p st ps) (hn : name ∈ accFree) (hB : typeLookup (.type "list") name = pure r) (hq : Q r s) :
    wpAny M A (specialOf (.ref p) name) Q E s := by
  obtain ⟨o, items, n, dx, u, ho, hc, _⟩ := id P
  obtain ⟨nm, q, sn, sub, ab, col, dd, k0, k1, k2, k3, k5, e⟩ := C.cls
  obtain ⟨mN, nN, _, hfree⟩ := C.ns
  obtain ⟨hp, g, dr, tk, os⟩ := s
  exact wpAny_specialOf_inst ho hc e nN (hfree _ hn) mro_list hB hq
theorem callSpecP {M : Model} {p : Addr} {st : Int} {ps : List PyData} {name : Str} {id : String} {args : List Value} {Q : Option Value → Shared → Prop} (C : AccAt s.heap) (P : PileAt s.heap p st ps) (hn : name ∈ accFree) (S : Slot "list" name id)
    (hc : wpAny M A (PySem.call (.builtin id) (.ref p :: args)) (fun v => Q (some v)) E s) : wpAny M A (callSpecial? (.ref p) name args) Q E s := by
  simp only [callSpecial?]
  refine wpAny_bind (specP C P hn S.lookup ?_)
  simp only [S.bind]
  exact wpAny_holding (wpAny_bind (wpAny_pure (wpAny_bind (wpAny_mono hc (fun v s' h' => wpAny_pure h') fun _ _ h' => h'))))
theorem seqKeyP {M : Model} {p : Addr} {st : Int} {ps : List PyData} {k : Value} {name : Str} {Q : Value → Shared → Prop} (C : AccAt s.heap) (P : PileAt s.heap p st ps) (hq : Q k s) : wpAny M A (sequenceKey (.ref p) k name) Q E s := by
  obtain ⟨o, items, n, dx, u, ho, hc, _⟩ := id P
  obtain ⟨nm, q, sn, sub, ab, col, dd, k0, k1, k2, k3, k5, e⟩ := C.cls
  obtain ⟨hp, g, dr, tk, os⟩ := s
  unfold sequenceKey
  refine wpAny_bind (typeOf_ref ho ?_)
  rw [hc]
  dsimp only
  unfold seqItemTypes
  simp only [List.anyM_cons, List.anyM_nil]
  refine wpAny_bind (wpAny_bind (wpAny_isSubtype_exc e ?_))
  rw [show (Value.ref 154 :: bmL).contains (.type "collections.deque") = false by decide]
  exact wpAny_pure (wpAny_pure hq)
theorem getSliceP {p sl : Addr} {st : Int} {ps : List PyData} {vl vu vs : Value} {lo hi stp : Option Int} (C : AccAt s.heap) (P : PileAt s.heap p st ps) (hz : ps.length ≤ 1000)
    (hs : s.heap.IsSliceOf sl vl vu vs) (pl : IsPart vl lo) (pu : IsPart vu hi) (pt : IsPart vs stp) (h0 : stp ≠ some 0)
    (h : ∀ items : Array Value, items.size = ps.length → RdsAll s.heap items.toList ps [] → Q (.ref s.heap.objs.size) { s with heap := s.heap.push { cls := .type "list", data := .seq (slicePick items lo hi stp) } }) : wpAny (model thePr w) A (getItem (.ref p) (.ref sl)) Q E s := by
  obtain ⟨o, items, n, dx, u, ho, hc, hd, _, _, _, _, r⟩ := id P
  obtain ⟨nm, q, sn, sub, ab, col, dd, k0, k1, k2, k3, k5, e⟩ := C.cls
  obtain ⟨os, hos, hcs, hds⟩ := id hs
  have hsz : items.size = ps.length := by have := readsAll_length r; rwa [Array.length_toList] at this
  have hTs : s.TypeIs (.ref sl) "slice" := ⟨os, hos, hcs⟩
  have h1000 : 1000 ≤ sizeLine := by decide
  have h := h items hsz r
  unfold getItem
  refine wpAny_holding ?_
  refine wpAny_bind (seqKeyP C P ?_)
  refine wpAny_bind (callSpecP C P (by decide) PySem.slot_list_getitem ?_)
  refine wpAny_call (codeAny_call_builtin PySem.slot_list_getitem.plain PySem.entry_list_getitem ?_)
  have hchk := fun (A : Around) (Q : Unit → Shared → Prop) (E : Value → Shared → Prop) (hq : Q () s) => (show wpAny (model thePr w) A (checkBuiltinCall "list.__getitem__" ⟨[.ref p, .ref sl], []⟩) Q E s from by obtain ⟨hp, g, dr, tk, os⟩ := s; exact check_getitem e ho hc hq)
  refine hchk _ _ _ ?_
  show wpAny _ _ (Builtin.List.listSubscript? (.ref sl) >>= _) _ _ s
  refine wpAny_bind ?_
  · unfold Builtin.List.listSubscript?
    refine wpAny_bind (wpAny_specialOf hTs slice_no_index ?_)
    simp only [Option.isNone_none, if_true]
    refine wpAny_pure ?_
    show wpAny _ _ (typeOf (.ref sl) >>= _) _ _ s
    refine wpAny_bind (wpAny_typeOf hTs ?_)
    rw [if_neg (by decide)]
    rw [listSliceParts_eq]
    have hstep : ¬ ((rawPart stp == rawInt 0) = true) := by
      cases stp with
      | none => exact Bool.false_ne_true
      | some c =>
        intro hh
        have : c = 0 := by simpa [rawPart, rawInt] using hh
        exact h0 (by rw [this])
    refine wpAny_bind (wpAny_bind (wpAny_field hos hds (x := vs) rfl (wpAny_bind (wpAny_listPart pt ?_))))
    rw [if_neg hstep]
    refine wpAny_bind (wpAny_field hos hds (x := vl) rfl (wpAny_bind (wpAny_listPart pl ?_)))
    refine wpAny_bind (wpAny_field hos hds (x := vu) rfl (wpAny_bind (wpAny_listPart pu (wpAny_pure ?_))))
    refine wpAny_bind (m := Builtin.List.listItems (.ref p)) ?_
    · unfold Builtin.List.listItems
      refine wpAny_bind (wpAny_seqItems ho hd (wpAny_pure ?_))
      refine wpAny_bind (wpAny_of_eq (sliceIndices_raw lo hi stp items.size h0) ?_)
      refine wpAny_bind (wpAny_newObj_type (wpAny_pure (wpAny_pure h)) (Nat.le_trans (slicePick_size_le items lo hi stp) (by omega)))
end
end Mine
set_option maxRecDepth 100000
set_option linter.all false
namespace Mine
open PySem PySem.Spec PySem.Calls PyProof.Rows PySem.W
section
variable {w : World} {A : Around} {E : Value → Shared → Prop} {s : Shared}
/- x[k:] = [] -/
theorem setSliceP {p sl b : Addr} {st : Int} {ps : List PyData} {vl : Value} {k : Nat} {bn : Nat} {Q : Unit → Shared → Prop} (C : AccAt s.heap) (P : PileAt s.heap p st ps) (hz : ps.length ≤ 1000) (hk : k ≤ ps.length) (hf : flatAll ps = true)
    (hs : s.heap.IsSliceOf sl vl .none .none) (pl : IsPart vl (some (k : Int))) (hb : s.heap.get? b = some (listO #[] bn)) (hbp : p ≠ b)
    (h : ∀ h', PileAt h' p st (ps.take k) → KBut p s.heap h' → Q () { s with heap := h' }) : wpAny (model thePr w) A (setItem (.ref p) (.ref sl) (.ref b)) Q E s := by
  obtain ⟨o, items, n, dx, u, ho, hc, hd, _, _, _, _, r⟩ := id P
  obtain ⟨nm, q, sn, sub, ab, col, dd, k0, k1, k2, k3, k5, e⟩ := C.cls
  obtain ⟨os, hos, hcs, hds⟩ := id hs
  have hsz : items.size = ps.length := by have := readsAll_length r; rwa [Array.length_toList] at this
  have hTs : s.TypeIs (.ref sl) "slice" := ⟨os, hos, hcs⟩
  have h1000 : 1000 ≤ sizeLine := by decide
  unfold setItem
  refine wpAny_holding ?_
  refine wpAny_bind (seqKeyP C P ?_)
  refine wpAny_bind (callSpecP C P (by decide) PySem.F.slot_list_setitem ?_)
  refine wpAny_call (codeAny_call_builtin PySem.F.slot_list_setitem.plain PySem.F.entry_list_setitem ?_)
  have hchk := fun (A : Around) (Q : Unit → Shared → Prop) (E : Value → Shared → Prop) (hq : Q () s) => (show wpAny (model thePr w) A (checkBuiltinCall "list.__setitem__" ⟨[.ref p, .ref sl, .ref b], []⟩) Q E s from by obtain ⟨hp, g, dr, tk, os⟩ := s; exact check_setitem e ho hc hq)
  refine hchk _ _ _ ?_
  show wpAny _ _ (Builtin.List.listSubscript? (.ref sl) >>= _) _ _ s
  refine wpAny_bind ?_
  · unfold Builtin.List.listSubscript?
    refine wpAny_bind (wpAny_specialOf hTs slice_no_index ?_)
    simp only [Option.isNone_none, if_true]
    refine wpAny_pure ?_
    show wpAny _ _ (typeOf (.ref sl) >>= _) _ _ s
    refine wpAny_bind (wpAny_typeOf hTs ?_)
    rw [if_neg (by decide)]
    rw [listSliceParts_eq]
    refine wpAny_bind (wpAny_bind (wpAny_field hos hds (x := .none) rfl (wpAny_bind (wpAny_listPart (k := none) .none ?_))))
    rw [if_neg (show ¬ ((rawPart none == rawInt 0) = true) from Bool.false_ne_true)]
    refine wpAny_bind (wpAny_field hos hds (x := vl) rfl (wpAny_bind (wpAny_listPart pl ?_)))
    refine wpAny_bind (wpAny_field hos hds (x := .none) rfl (wpAny_bind (wpAny_listPart (k := none) .none (wpAny_pure ?_))))
    rw [if_neg (by show ¬ ((p == b) = true); simpa using hbp)]
    refine wpAny_bind (m := Builtin.List.listAllItems (.ref b) _) ?_
    unfold Builtin.List.listAllItems
    refine wpAny_bind (typeOf_ref hb ?_)
    rw [if_pos (show ((Value.type "list") == Value.type "list" || (Value.type "list") == Value.type "tuple") = true by decide)]
    unfold Builtin.List.listItems
    refine wpAny_bind (wpAny_seqItems hb rfl (wpAny_pure ?_))
    refine wpAny_bind (wpAny_bind (wpAny_seqItems ho hd (wpAny_pure ?_)))
    refine wpAny_bind (wpAny_of_eq (sliceIndices_raw (some (k : Int)) none none items.size (by simp)) ?_)
    have hSB : sliceBounds (some (k : Int)) none none items.size = ((k : Int), (items.size : Int), 1) := by
      rw [sliceBounds_plain]
      show (((clipAt items.size (k : Int) : Nat) : Int), _, _) = _
      rw [clipAt_nat, Nat.min_eq_left (by omega)]
      rfl
    rw [hSB]
    dsimp only
    rw [if_pos (by decide)]
    refine wpAny_bind (wpAny_rule ?_)
    rw [if_neg (by unfold Builtin.List.listTooLong; simp; omega)]
    refine wpAny_bind (m := updateSeq p _) (wp_updP P hz (ps' := ps.take k) (fun its hs r => ?_) ?_ fun h' P' k' => ?_)
    · have e1 : (its.extract 0 (k : Int).toNat ++ #[] ++ its.extract (max (k : Int) (items.size : Int)).toNat its.size).toList = its.toList.take k := by
        have : (max (k : Int) (items.size : Int)).toNat = items.size := by omega
        rw [this]
        simp
        omega
      refine ⟨by rw [e1]; exact rdsAll_take r k, ?_⟩
      have := congrArg List.length e1
      rw [Array.length_toList, List.length_take, Array.length_toList] at this
      omega
    · rw [flatAll_iff] at hf ⊢
      intro d hd
      exact hf d (List.mem_of_mem_take hd)
    · exact wpAny_bind (wpAny_letGo (wpAny_pure (wpAny_pure (h h' P' k'))))
end
end Mine
set_option maxRecDepth 100000
set_option linter.all false
namespace Mine
open PySem PySem.Spec PySem.Calls PyProof.Rows PySem.W
theorem PileAt.kf {h h' : Heap} {p : Addr} {st : Int} {ps : List PyData} (k : Kf h h') (P : PileAt h p st ps) : PileAt h' p st ps := by
  obtain ⟨o, items, n, dx, u, ho, hc, hdd, hsl, hdx, hne, hns, r⟩ := P
  exact ⟨o, items, n, dx, u, k _ _ ho, hc, hdd, hsl, hdx, hne, ns1_but (p := p) (fun b o _ e => k b o e) hne hns, rdsAll_kp (.of_keep k) r⟩
section
variable {w : World} {A : Around} {E : Value → Shared → Prop} {s : Shared} {Q : Value → Shared → Prop} {env : Env} {G : Heap → Prop}
theorem tailP {value slice : Expr} {p : Addr} {i : Value} {st : Int} {ps : List PyData} {ops : List Value} (C : AccAt s.heap) (P : PileAt s.heap p st ps) (hg : wpAny (model thePr w) A (getItem (.ref p) i) Q E s)
    (hs : subscripted slice false (.ref p) i = operate ops (getItem (.ref p) i)) : wpAny (model thePr w) A (subscriptTail value slice (.ref p) i) Q E s := by
  unfold subscriptTail
  refine wpAny_bind ?_
  rw [getitemInPython_of_ne (by intro x; cases x)]
  refine wpAny_bind (specP C P (by decide) PySem.slot_list_getitem.lookup ?_)
  have fin : wpAny (model thePr w) A (subscripted slice false (.ref p) i) (fun r s₃ => wpAny (model thePr w) A (letTemporaryGo value (.ref p) r >>= fun _ => pure r) Q E s₃) E s := by
    rw [hs]
    exact wpAny_operating (wpAny_mono hg (fun r s₃ h₃ => wpAny_bind (wpAny_letTemporaryGo (wpAny_pure h₃))) fun _ _ x => x)
  first
    | exact wpAny_pure (wpAny_bind fin)
    | exact wpAny_bind (wpAny_pure (wpAny_bind fin))
    | exact wpAny_bind fin
/- x[k:] -/
theorem EV.sliceP (hm : Mono G) {x : Str} {p : Addr} {st : Int} {ps : List PyData} {l : Expr} {px p1 pos : Pos} {k : Nat} {f : Bool} (hn : NV env G x (.ref p)) (hC : ∀ h, G h → AccAt h ∧ PileAt h p st ps) (hl : EV w A env G f l (.int k)) (hf : flatAll ps = true) (hz : ps.length ≤ 1000) :
    EV w A env G true (.Subscript (.Name x px) (.Slice (some l) none none p1) pos) (.list (ps.drop k)) := by
  intro s E g
  refine Subscript_ (hn _ _ _ _ _ _ g ?_)
  refine wpAny_Slice (wpAny_mono (OE.some hl s E g) (fun vl s₂ h₂ => ?_) fun _ _ x => x)
  obtain ⟨pl, k₂⟩ := h₂
  refine wpAny_pure (wpAny_pure ?_)
  have g₂ := hm _ _ (kf_of k₂) g
  obtain ⟨C, P⟩ := hC _ g₂
  have kp1 := keeps_push s₂ { cls := .type "slice", data := .fields #[vl, .none, .none] }
  have P' : PileAt (s₂.heap.push { cls := .type "slice", data := .fields #[vl, .none, .none] }) p st ps := P.kf (kf_of kp1)
  have C' : AccAt (s₂.heap.push { cls := .type "slice", data := .fields #[vl, .none, .none] }) := C.kp (kp_of kp1)
  refine tailP (s := { s₂ with heap := s₂.heap.push { cls := .type "slice", data := .fields #[vl, .none, .none] } }) (ops := [.ref s₂.heap.objs.size, .ref p]) C' P' (getSliceP C' P' hz (Heap.IsSliceOf.new ..) pl .none .none (by simp) fun items hsz r => ?_) rfl
  have hP : (slicePick items (some (k : Int)) none none).toList = (sliceRange (sliceBounds (some (k : Int)) none none ps.length).1 (sliceBounds (some (k : Int)) none none ps.length).2.1 (sliceBounds (some (k : Int)) none none ps.length).2.2).filterMap (items.toList[·]?) := by
    unfold slicePick; rw [hsz]; simp
  dsimp only at r ⊢
  generalize slicePick items (some (k : Int)) none none = PP at hP ⊢
  generalize hH : s₂.heap.push { cls := .type "slice", data := .fields #[vl, .none, .none] } = H at *
  have kall : Keeps s { s₂ with heap := H.push { cls := .type "list", data := .seq PP } } := keeps_trans k₂ ⟨_, s₂.toks, rfl, fun b o e => Heap.get?_push_of_some _ (by rw [← hH]; exact Heap.get?_push_of_some _ e)⟩
  refine ⟨⟨[H.objs.size], .list (vs := PP) (n := 0) (Heap.get?_push_size _ rfl) ?_, fun _ q hq => ?_⟩, kall⟩
  · have q := rdsAll_pick (rdsAll_kp (.of_keep fun b o e => Heap.get?_push_of_some { cls := .type "list", data := .seq PP } e) r) hf (sliceRange (sliceBounds (some (k : Int)) none none ps.length).1 (sliceBounds (some (k : Int)) none none ps.length).2.1 (sliceBounds (some (k : Int)) none none ps.length).2.2)
    rw [hP]
    have e2 : ps.drop k = pickD ps (some (k : Int)) none none := by rw [pickD_from ps k (by omega)]; simp
    rw [e2]
    exact q
  · simp at hq; subst hq
    refine none_of_keeps k₂ (fresh_ge ?_)
    rw [← hH, Heap.size_push]; exact Nat.le_succ _
end
end Mine
set_option maxRecDepth 100000
set_option linter.all false
namespace Mine
open PySem PySem.Spec PySem.Calls PyProof.Rows PySem.W
section
variable {p : Addr} {h h' : Heap} {o : Obj} (ho : h.get? p = some o) (hc : o.cls = .ref 154) (k : KBut p h h')
include ho hc k
theorem pbut_get {b : Addr} {x : Obj} {n : String} (e : h.get? b = some x) (hx : x.cls = .type n) : h'.get? b = some x := k b x (fun q => by rw [q, ho] at e; rw [← Option.some.inj e, hc] at hx; cases hx) e
theorem rds_pbut {v : Value} {d : PyData} {as : List Addr} (r : Rds h v d as) : Rds h' v d as := rds_mv (S := fun _ => True) (fun _ _ _ _ e => pbut_get ho hc k e rfl) (fun _ _ _ e => pbut_get ho hc k e rfl) r fun _ _ => trivial
theorem rdsAll_pbut {vs : List Value} {ds : List PyData} {as : List Addr} (r : RdsAll h vs ds as) : RdsAll h' vs ds as := rdsAll_mv (S := fun _ => True) (fun _ _ _ _ e => pbut_get ho hc k e rfl) (fun _ _ _ e => pbut_get ho hc k e rfl) r fun _ _ => trivial
end
theorem fb_pbut {p : Addr} {st : Int} {ps : List PyData} {L : Addr} {bs vs} {h h' : Heap} (P : PileAt h p st ps) (k : KBut p h h') (x : FB L bs vs h) : FB L bs vs h' := by
  obtain ⟨o, items, n, dx, u, ho, hc, hdd, _⟩ := P
  obtain ⟨m, ns, rb, rv⟩ := x
  have hne : L ≠ p := by
    rintro rfl
    obtain ⟨o', es, ep, ho', hd', _⟩ := ns
    rw [ho'] at ho; cases ho; rw [hdd] at hd'; cases hd'
  refine ⟨m, ns.at' fun o e => k _ o hne e, fun x d e => ?_, rv⟩
  obtain ⟨v, as, e1, e2⟩ := rb x d e
  exact ⟨v, as, e1, rds_pbut ho hc k e2⟩
section
variable {w : World} {A : Around} {E : Value → Shared → Prop} {s : Shared} {Q : Value → Shared → Prop}
theorem wp_storeV {M : Model} {env : Env} {h0 : Heap} {L : Addr} {bs vs} {x : Str} {v : Value} {Q : Unit → Shared → Prop} (g : GF h0 L bs vs s.heap) (h0L : h0.get? L = none) (hL : env.locals = L) (hx : env.kindOf x = some .local)
    (hp : (env.scope.kind == .class || (env.scope.kind == .module && env.locals != env.globals)) = false) (hv : bs.lookup x = none)
    (next : ∀ h' tk, GF h0 L bs ((x, v) :: vs) h' → KBut L s.heap h' → (∃ m, s.heap.Ns L m) → Q () { s with heap := h', toks := tk }) : wpAny M A (storeName env x v) Q E s := by
  subst hL
  obtain ⟨kf, m, n, rb, rv⟩ := g
  refine wpAny_storeName_local hx n (fun h₂ n₂ s₂ => next h₂ _ ⟨fun b o e => s₂.extBut b o (by rintro rfl; rw [h0L] at e; cases e) (kf b o e), _, n₂, fun y dy e => ?_, fun y v' e => ?_⟩ s₂.extBut ⟨m, n⟩) hp
  · have hy : y ≠ x := by rintro rfl; rw [hv] at e; cases e
    obtain ⟨v', as', e1, e2⟩ := rb y dy e
    exact ⟨v', as', by simp [hy, e1], rds_but n s₂.extBut e2⟩
  · by_cases hy : y = x
    · subst hy
      simp at e; subst e
      simp
    · have hyx : (y == x) = false := by simpa using hy
      rw [List.lookup_cons, hyx] at e
      simp [hy, rv y v' e]
/- pop_from -/
theorem popfrom_ok {p : Addr} {st : Int} {ps : List PyData} {k : Nat} {u : Tok} (hA : Room 2 A) (B : Base s.heap) (C : AccAt s.heap) (hdf : ∃ t, s.heap.get? 99 = some (tupO #[.int 0 t] 0)) (F : MAt s.heap 106 "pop_from" "_Accumulator.pop_from" (mSt 2) (.ref 99) 105 []) (P : PileAt s.heap p st ps) (hf : flatAll ps = true) (hz : ps.length ≤ 1000) (hk : k ≤ ps.length)
    (hQ : ∀ v as h' tk, Rds h' v (.list (ps.drop k)) as → (∀ a ∈ as, s.heap.get? a = none) → PileAt h' p st (ps.take k) → KBut p s.heap h' → Q v { s with heap := h', toks := tk }) :
    wpAny (model thePr w) A (PySem.call (.ref 106) [.ref p, .int k u]) Q E s := by
  obtain ⟨t0, hdf⟩ := hdf
  refine callM (binds := [("self", .ref p), ("i", .int k u)]) F B.lim hA.here (fun pm ct => .of_defaults rfl hdf rfl rfl rfl) (by decide) (locs rfl) fun pm ct h₀ n k₀ => ?_
  have g : GF s.heap s.heap.objs.size [("i", .int k)] [("self", .ref p)] h₀ := GF.start n k₀ (fun q hq => by simp at hq; subst hq; exact ⟨_, _, rfl, .int _ _⟩) (by intro q hq; simp at hq; subst hq; rfl)
  have hnL : s.heap.get? s.heap.objs.size = none := fresh_size _
  have hCP : ∀ bs vs h, GF s.heap s.heap.objs.size bs vs h → AccAt h ∧ PileAt h p st ps := fun bs vs h g => ⟨C.kp (.of_keep g.1), P.kf g.1⟩
  refine wpAny_execs_cons (wpAny_Assign_Name (ev_goNK (EV.sliceP (w := w) mono_GF (NV.loc rfl rfl rfl rfl rfl) (hCP _ _) (EV.loc (d := .int k) rfl rfl rfl rfl rfl) hf hz _ _ g) fun pv pas hP1 tkP1 rp pnew kP1 => ?_) rfl)
  refine wp_storeV (mono_GF _ _ kP1 g) hnL rfl rfl rfl rfl fun h₁ tk₁ g₁ kb₁ n₁ => ?_
  have rp₁ := rds_kbut n₁ kb₁ rp
  have pnew' : ∀ a ∈ pas, s.heap.get? a = none := fun a ha => by
    have := pnew rfl a ha
    cases e : s.heap.get? a with
    | none => rfl
    | some o => rw [k₀ _ _ e] at this; cases this
  refine wpAny_execs_cons (wpAny_Assign_Subscript (ev_goNK (EV.list (w := w) (f := true) EVs.nil (by decide) _ _ g₁) fun v as h₂ tk₂ rv hnew k₂ => ?_) rfl)
  have g₂ := mono_GF _ _ k₂ g₁
  cases rv with
  | @list b vs bn _ as' hb rb =>
  have hvs : vs = #[] := by
    have := readsAll_length rb
    simpa using this
  subst hvs
  refine NV.loc (v := .ref p) rfl rfl rfl rfl rfl _ _ _ _ _ _ g₂ ?_
  refine wpAny_Slice (wpAny_mono (OE.some (EV.loc (d := .int k) rfl rfl rfl rfl rfl) _ _ g₂) (fun vl s₃ h₃ => ?_) fun _ _ x => x)
  obtain ⟨pl, h₃, tk₃, rfl, k₃⟩ := h₃
  refine wpAny_pure (wpAny_pure ?_)
  have kp1 := keeps_push { s with heap := h₃, toks := tk₃ } { cls := .type "slice", data := .fields #[vl, .none, .none] }
  have g₄ := mono_GF _ _ (kf_of kp1) (mono_GF _ _ k₃ g₂)
  obtain ⟨C₄, P₄⟩ := hCP _ _ _ g₄
  have hb₄ := keeps_get kp1 (k₃ _ _ hb)
  refine setSliceP (s := { s with heap := h₃.push { cls := .type "slice", data := .fields #[vl, .none, .none] }, toks := tk₃ }) C₄ P₄ hz hk hf (Heap.IsSliceOf.new ..) pl hb₄ ?_ fun h₅ P₅ k₅ => ?_
  · rintro rfl
    obtain ⟨o, items, n, dx, u, ho, hc, _⟩ := P₄
    rw [hb₄] at ho; cases ho; cases hc
  · have f₅ := fb_pbut P₄ k₅ g₄.2
    have rp₅ : Rds h₅ pv (.list (ps.drop k)) pas := by
      obtain ⟨o, items, n, dx, u, ho, hc, _⟩ := id P₄
      exact rds_pbut ho hc k₅ (rds_kp (.of_keep (Kf.trans (Kf.trans k₂ k₃) (kf_of kp1))) rp₁)
    have g₅ : GF (erase h₅ s.heap.objs.size) s.heap.objs.size [("i", .int k)] [("popped", pv), ("self", .ref p)] h₅ := ⟨erase_stays _ _, f₅⟩
    refine wpAny_execs_cons (wpAny_Return_some (NV.loc (v := pv) rfl rfl rfl rfl rfl _ _ _ _ _ _ g₅ ?_))
    exact hQ pv pas h₅ _ rp₅ pnew' P₅ (KBut.pre g₄.1 k₅)
end
end Mine
set_option maxRecDepth 100000
set_option linter.all false
namespace Mine
open PySem PySem.Spec PySem.Calls PyProof.Rows PySem.W
theorem looks_opq {M : Model} {h : Heap} {C : Addr} {mc : Str → Option Value} (n : h.Ns cStatics mc) (e : mc "thirdparty.any" = none) : Looks M h (opaqueClassAbove (.ref C)) none := by
  intro A Q E s k q
  unfold opaqueClassAbove anyOpaqueLoaded
  refine wpAny_bind (wpAny_bind (wpAny_nsGet (ns_kp (.of_keep k) n) ?_))
  rw [e]
  exact wpAny_pure (wpAny_pure q)
noncomputable abbrev superO (D x C : Addr) : Obj := { cls := .type "super", dict := none, data := .fields #[.ref D, .ref x, .ref C], slots := #[] }
section
variable {prog : Program} {w : World} {A : Around} {E : Value → Shared → Prop} {h : Heap} {g : Array GenState} {d : Drawn} {t : Nat} {os : OsState}
variable {nm q : Str} {C N x so : Addr} {bs : List Value} {sn : List Str} {sub : List Value} {ab : Bool} {col : Option Bool} {dd : Option Addr} {k0 k1 k2 k3 k5 : Option Value} {newId : String}
theorem super_gaB {name : Str} {id gid T : String} {tk : Tok} {r : Value} {s' : Shared} {Q : Fin → Shared → Prop} (hC : h.get? C = some (excClassObj nm q C N bs bmL true sn sub ab col dd k0 k1 k2 k3 k5 newId))
    (hso : h.get? so = some (superO C x C)) (hno : Looks (model prog w) h (opaqueClassAbove (.ref C)) none) (own : builtinOwn "list" name = some (.builtin id)) (hty : typeOf (.builtin id) = pure (.type T)) (hget : typeLookup (.type T) "__get__" = pure (some (.builtin gid)))
    (hxC : x ≠ C) (hn : (name == ("__class__" : Str)) = false)
    (hcall : wpAny (model prog w) A (call (.builtin gid) [.builtin id, .ref x, .ref C]) (fun v s₁ => v = r ∧ s₁ = s') (fun _ _ => False) ⟨h, g, d, t, os⟩)
    (hq : Q (.done (.ret r)) s') :
    wpAny (model prog w) A (Builtin.«super.__getattribute__» ⟨[.ref so, .str name tk], []⟩) Q E ⟨h, g, d, t, os⟩ := by
  unfold Builtin.«super.__getattribute__»
  dsimp only
  rw [show asStr? (.str name tk) = pure (some name) from rfl]
  simp only [pure_bind, Option.isNone_some, Bool.false_eq_true, if_false]
  refine wpAny_bind (wpAny_field hso rfl (x := .ref C) rfl ?_)
  refine wpAny_bind (wpAny_field hso rfl (x := .ref x) rfl ?_)
  refine wpAny_bind (wpAny_field hso rfl (x := .ref C) rfl ?_)
  rw [if_neg (by rw [hn]; simp)]
  refine wpAny_bind (ks_wpAny_notOpaque hno ?_)
  rw [if_neg (by simp)]
  refine wpAny_bind (wpAny_mroOf_exc hC ?_)
  have hl : List.drop 1 (List.dropWhile (fun x => x != Value.ref C) (.ref C :: bmL)) = bmL := by simp [List.dropWhile]
  rw [hl]
  rw [List.forIn_cons]
  refine wpAny_bind (wpAny_bind (m := classOwn (.type "list") name >>= _) ?_)
  refine wpAny_bind (wpAny_of_eq (show classOwn (.type "list") name = pure (some (.builtin id)) by show pure (builtinOwn "list" name) = _; rw [own]) ?_)
  dsimp only
  refine wpAny_bind (wpAny_of_eq hty (wpAny_bind (wpAny_of_eq hget ?_)))
  dsimp only
  rw [if_neg (by simpa using hxC)]
  refine wpAny_bind (wpAny_holding (wpAny_mono hcall (fun v s₁ h₁ => ?_) fun _ _ x => x.elim))
  obtain ⟨rfl, rfl⟩ := h₁
  exact wpAny_bind (wpAny_pure (wpAny_pure (wpAny_pure (wpAny_pure hq))))
end
end Mine
set_option maxRecDepth 100000
set_option linter.all false
namespace Mine
open PySem PySem.Spec PySem.Calls PyProof.Rows PySem.W
theorem slot_wd_get : Slot "wrapper_descriptor" "__get__" "wrapper_descriptor.__get__" := .of (owner := "wrapper_descriptor") (n := "__get__") (by rw [typeLookup_type, builtinLookup_eq_fast]; kernel_rfl) (by decide +kernel) (by decide +kernel) (by decide +kernel)
  (by first | exact .inl (by decide +kernel) | exact .inr (by decide +kernel)) (by rw [isSubtype_type]; kernel_rfl)
theorem slot_md_get : Slot "method_descriptor" "__get__" "method_descriptor.__get__" := .of (owner := "method_descriptor") (n := "__get__") (by rw [typeLookup_type, builtinLookup_eq_fast]; kernel_rfl) (by decide +kernel) (by decide +kernel) (by decide +kernel)
  (by first | exact .inl (by decide +kernel) | exact .inr (by decide +kernel)) (by rw [isSubtype_type]; kernel_rfl)
theorem entry_wd_get : entryFor table "wrapper_descriptor.__get__" = some Builtin.«wrapper_descriptor.__get__» := entryFor_of_tree (by kernel_rfl)
theorem entry_md_get : entryFor table "method_descriptor.__get__" = some Builtin.«method_descriptor.__get__» := entryFor_of_tree (by kernel_rfl)
theorem args_wd_get (a b c : Value) : argsOk "wrapper_descriptor.__get__" ⟨[a, b, c], []⟩ := by unfold argsOk; kernel_rfl
theorem args_md_get (a b c : Value) : argsOk "method_descriptor.__get__" ⟨[a, b, c], []⟩ := by unfold argsOk; kernel_rfl
theorem own_list_len : builtinOwn "list" "__len__" = some (.builtin "list.__len__") := by kernel_rfl
theorem own_list_init : builtinOwn "list" "__init__" = some (.builtin "list.__init__") := by kernel_rfl
theorem own_list_pop : builtinOwn "list" "pop" = some (.builtin "list.pop") := by kernel_rfl
theorem type_list_len : typeOf (.builtin "list.__len__") = pure (.type "wrapper_descriptor") := by show builtinType _ = _; rw [builtinType_eq_fast]; kernel_rfl
theorem type_list_init : typeOf (.builtin "list.__init__") = pure (.type "wrapper_descriptor") := by show builtinType _ = _; rw [builtinType_eq_fast]; kernel_rfl
noncomputable abbrev boundO (T : String) (id : String) (x : Addr) : Obj := { cls := .type T, dict := none, data := .fields #[.builtin id, .ref x], slots := #[] }
section
variable {prog : Program} {w : World} {A : Around} {E : Value → Shared → Prop} {h : Heap} {g : Array GenState} {d : Drawn} {t : Nat} {os : OsState}
variable {nm q : Str} {C N x so : Addr} {bs : List Value} {sn : List Str} {sub : List Value} {ab : Bool} {col : Option Bool} {dd : Option Addr} {k0 k1 k2 k3 k5 : Option Value} {newId : String}
theorem owner_len : (".".intercalate ("list.__len__".cutAt '.').dropLast) = "list" := by
  have e0 : "list.__len__".cutAt '.' = ["list", "__len__"] := by first | rfl | decide +kernel
  rw [e0]; decide +kernel
theorem get_len {o : Obj} (hC : h.get? C = some (excClassObj nm q C N bs bmL true sn sub ab col dd k0 k1 k2 k3 k5 newId)) (hx : h.get? x = some o) (hc : o.cls = .ref C) :
    wpAny (model prog w) A (call (.builtin "wrapper_descriptor.__get__") [.builtin "list.__len__", .ref x, .ref C]) (fun v s₁ => v = .ref h.objs.size ∧ s₁ = ⟨h.push (boundO "method-wrapper" "list.__len__" x), g, d, t, os⟩) (fun _ _ => False) ⟨h, g, d, t, os⟩ := by
  refine wpAny_call_entry slot_wd_get type_list_len entry_wd_get ?_ (args_wd_get _ _ _)
  have hcB : (Value.ref C :: bmL).contains (.type "list") = true := by rw [List.contains_cons]; simp
  unfold Builtin.«wrapper_descriptor.__get__»
  repeat (first | (with_reducible refine wpAny_loadPart_at hx ?_; rw [hc]) | wp_step)
  rw [owner_len]
  refine wpAny_isSubtype_exc hC ?_
  rw [hcB]
  repeat wp_step
  exact ⟨_, rfl, rfl, rfl⟩
theorem owner_init : (".".intercalate ("list.__init__".cutAt '.').dropLast) = "list" := by
  have e0 : "list.__init__".cutAt '.' = ["list", "__init__"] := by first | rfl | decide +kernel
  rw [e0]; decide +kernel
theorem get_init {o : Obj} (hC : h.get? C = some (excClassObj nm q C N bs bmL true sn sub ab col dd k0 k1 k2 k3 k5 newId)) (hx : h.get? x = some o) (hc : o.cls = .ref C) :
    wpAny (model prog w) A (call (.builtin "wrapper_descriptor.__get__") [.builtin "list.__init__", .ref x, .ref C]) (fun v s₁ => v = .ref h.objs.size ∧ s₁ = ⟨h.push (boundO "method-wrapper" "list.__init__" x), g, d, t, os⟩) (fun _ _ => False) ⟨h, g, d, t, os⟩ := by
  refine wpAny_call_entry slot_wd_get type_list_init entry_wd_get ?_ (args_wd_get _ _ _)
  have hcB : (Value.ref C :: bmL).contains (.type "list") = true := by rw [List.contains_cons]; simp
  unfold Builtin.«wrapper_descriptor.__get__»
  repeat (first | (with_reducible refine wpAny_loadPart_at hx ?_; rw [hc]) | wp_step)
  rw [owner_init]
  refine wpAny_isSubtype_exc hC ?_
  rw [hcB]
  repeat wp_step
  exact ⟨_, rfl, rfl, rfl⟩
theorem owner_pop : (".".intercalate ("list.pop".cutAt '.').dropLast) = "list" := by
  have e0 : "list.pop".cutAt '.' = ["list", "pop"] := by first | rfl | decide +kernel
  rw [e0]; decide +kernel
theorem get_pop {o : Obj} (hC : h.get? C = some (excClassObj nm q C N bs bmL true sn sub ab col dd k0 k1 k2 k3 k5 newId)) (hx : h.get? x = some o) (hc : o.cls = .ref C) :
    wpAny (model prog w) A (call (.builtin "method_descriptor.__get__") [.builtin "list.pop", .ref x, .ref C]) (fun v s₁ => v = .ref h.objs.size ∧ s₁ = ⟨h.push (boundO "builtin_function_or_method" "list.pop" x), g, d, t, os⟩) (fun _ _ => False) ⟨h, g, d, t, os⟩ := by
  refine wpAny_call_entry slot_md_get PySem.F.type_list_pop entry_md_get ?_ (args_md_get _ _ _)
  have hcB : (Value.ref C :: bmL).contains (.type "list") = true := by rw [List.contains_cons]; simp
  unfold Builtin.«method_descriptor.__get__»
  repeat (first | (with_reducible refine wpAny_loadPart_at hx ?_; rw [hc]) | wp_step)
  rw [owner_pop]
  refine wpAny_isSubtype_exc hC ?_
  rw [hcB]
  repeat wp_step
  exact ⟨_, rfl, rfl, rfl⟩
end
end Mine
set_option maxRecDepth 100000
set_option linter.all false
namespace Mine
open PySem PySem.Spec PySem.Calls PyProof.Rows PySem.W
section
variable {prog : Program} {w : World} {A : Around} {E : Value → Shared → Prop} {h : Heap} {g : Array GenState} {d : Drawn} {t : Nat} {os : OsState}
variable {nm q : Str} {C N x so : Addr} {bs : List Value} {sn : List Str} {sub : List Value} {ab : Bool} {col : Option Bool} {dd : Option Addr} {k0 k1 k2 k3 k5 : Option Value} {newId : String}
theorem methodSB {name : Str} {id gid T bt : String} {pl : Sem Bool} {Q : Value × List Value → Shared → Prop} (hC : h.get? C = some (excClassObj nm q C N bs bmL true sn sub ab col dd k0 k1 k2 k3 k5 newId))
    (hso : h.get? so = some (superO C x C)) (hno : Looks (model prog w) h (opaqueClassAbove (.ref C)) none) (own : builtinOwn "list" name = some (.builtin id)) (hty : typeOf (.builtin id) = pure (.type T)) (hget : typeLookup (.type T) "__get__" = pure (some (.builtin gid)))
    (hxC : x ≠ C) (hn : (name == ("__class__" : Str)) = false)
    (hcall : ∀ (A : Around) t, wpAny (model prog w) A (call (.builtin gid) [.builtin id, .ref x, .ref C]) (fun v s₁ => v = .ref h.objs.size ∧ s₁ = ⟨h.push (boundO bt id x), g, d, t, os⟩) (fun _ _ => False) ⟨h, g, d, t, os⟩)
    (hq : Q (.ref h.objs.size, []) ⟨h.push (boundO bt id x), g, d, t + 1, os⟩) :
    wpAny (model prog w) A (getMethod (.ref so) name pl) Q E ⟨h, g, d, t, os⟩ := by
  have hlk := PySem.F.ks_slot_super_ga.lookup
  have hcan := PySem.F.ks_canon_super_ga
  have hT : ∀ t', (⟨h, g, d, t', os⟩ : Shared).TypeIs (.ref so) "super" := fun _ => ⟨_, hso, rfl⟩
  unfold getMethod
  refine wpAny_bind (wpAny_specialOf (hT _) hlk ?_)
  show wpAny _ _ (if (Manifest.canonical "super.__getattribute__" != "object.__getattribute__") = true then _ else _) _ _ _
  rw [if_pos hcan]
  unfold getAttr getAttrBy
  refine wpAny_bind (wpAny_bind (wpAny_mkText (wpAny_holding (wpAny_bind (wpAny_typeOf (hT _) (wpAny_bind (wpAny_of_eq hlk ?_)))))))
  show wpAny _ _ (getAttrByItsOwn (.ref so) (.str name t) (.type "super") (.builtin "super.__getattribute__") true false) _ _ _
  unfold getAttrByItsOwn hookBefore callGetattribute boundAndCalled
  refine wpAny_bind (wpAny_of_eq (show (if onTheHeap (.type "super") then typeLookup (.type "super") "__getattr__" else pure none) = pure none from rfl) ?_)
  refine wpAny_bind (wpAny_attempt (wpAny_holding ?_))
  show wpAny _ _ (bindSpecial (.builtin "super.__getattribute__") (.ref so) >>= _) _ _ _
  refine wpAny_bind (wpAny_of_eq (PySem.F.ks_slot_super_ga.bind _) ?_)
  refine wpAny_mono (Q := fun v s' => v = .ref h.objs.size ∧ s' = ⟨h.push (boundO bt id x), g, d, t + 1, os⟩) (E := fun _ _ => False)
    (wpAny_call_entry PySem.F.ks_slot_super_ga (hT _) PySem.F.ks_entry_super_ga (super_gaB hC hso hno own hty hget hxC hn (hcall _ _) ⟨_, rfl, rfl, rfl⟩) (PySem.F.ks_gaArgs_super _ _)) (fun v s' hv => ?_) fun _ _ z => z.elim
  obtain ⟨rfl, rfl⟩ := hv
  exact wpAny_pure (wpAny_pure hq)
/- a call of a bound method of list -/
theorem call_bound {b : Addr} {T id : String} {B : Builtin} {R : Result → Shared → Prop} {s : Shared} (hb : s.heap.get? b = some (boundO T id x)) (hT : T = "method-wrapper" ∨ T = "builtin_function_or_method") (hchk : ∀ (A : Around) (Q : Unit → Shared → Prop) (E : Value → Shared → Prop), Q () s → wpAny (model prog w) A (checkBoundCall id ⟨[.ref x], []⟩) Q E s) (hpl : plainId id = true) (entry : entryFor table id = some B)
    (hq : wpAny (model prog w) A.in1 (B ⟨[.ref x], []⟩) (fun fin s' => match fin with | .done f => R (.ok f) s' | .again c' => c'.quiet = true ∧ codeAny (model prog w) A c' R s') (fun e s' => R (.error e) s') s) : codeAny (model prog w) A (.call (.ref b) ⟨[], []⟩) R s := by
  refine codeAny_of_tree ?_
  show wpAny _ A.in1 (callAny (.ref b) ⟨[], []⟩) _ _ _
  unfold callAny
  refine wpAny_bind (wpAny_load hb ?_)
  dsimp only
  rw [if_pos (by rcases hT with rfl | rfl <;> decide)]
  show wpAny _ _ (if ((Value.type T) != .type "method") = true then _ else _) _ _ _
  rw [if_pos (by rcases hT with rfl | rfl <;> decide)]
  refine wpAny_bind (hchk _ _ _ (wpAny_pure ?_))
  refine ⟨plainId_quiet hpl _, codeAny_builtin entry ?_⟩
  rw [Around.under_plainId hpl _]
  exact hq
end
end Mine
set_option maxRecDepth 100000
set_option linter.all false
namespace Mine
open PySem PySem.Spec PySem.Calls PyProof.Rows PySem.W
/- a code object with its file -/
noncomputable def CfAt (h : Heap) (c : Addr) : Prop := ∃ o vs tf, h.get? c = some o ∧ o.cls = .type "code" ∧ o.data = .fields vs ∧ vs[2]? = some (.str thePr.main.file tf)
theorem CfAt.kp {h h' : Heap} {c : Addr} (k : Kp h h') (x : CfAt h c) : CfAt h' c := by
  obtain ⟨o, vs, tf, ho, hc, r⟩ := x
  exact ⟨o, vs, tf, k _ _ ho (tabby_cls hc), hc, r⟩
noncomputable def OpqAt (h : Heap) : Prop := ∃ mc, h.Ns cStatics mc ∧ mc "thirdparty.any" = none
theorem OpqAt.kp {h h' : Heap} (k : Kp h h') (x : OpqAt h) : OpqAt h' := by obtain ⟨mc, n, e⟩ := x; exact ⟨mc, ns_kp k n, e⟩
section
variable {w : World} {A : Around} {E : Value → Shared → Prop} {s : Shared} {Q : Value → Shared → Prop}
/- super().name() in a def of the class, name a method of list -/
theorem superCall {L f c p : Addr} {nm0 q0 : Str} {st : Stmt} {dV pm ct : Value} {stt : Int} {ps : List PyData} {m : Str → Option Value} {body : List Stmt} {name : Str} {id gid T bt : String} {B : Builtin} {p0 p1 apos pos : Pos} {ar : Arg}
    {of : Obj} (F : s.heap.get? f = some of) (Fd : of.data = .func (fdM nm0 q0 st dV pm ct c [("__class__", 78)])) (hc : CfAt s.heap c) (hO : OpqAt s.heap) (Bs : Base s.heap) (C : AccAt s.heap) (P : PileAt s.heap p stt ps) (hn : s.heap.Ns L m) (hv : m ar.arg = some (.ref p))
    (hks : (callEnv (fdM nm0 q0 st dV pm ct c [("__class__", 78)]) L f).kindOf "super" = some .globalImplicit) (hkc : (callEnv (fdM nm0 q0 st dV pm ct c [("__class__", 78)]) L f).kindOf "__class__" = some .free) (hka : (callEnv (fdM nm0 q0 st dV pm ct c [("__class__", 78)]) L f).kindOf ar.arg = some .local)
    (hk : (dScope st).kind = .function) (hp : ((dArgs st).posonlyargs ++ (dArgs st).args).head? = some ar) (hat : (name == ("__class__" : Str)) = false)
    (own : builtinOwn "list" name = some (.builtin id)) (hty : typeOf (.builtin id) = pure (.type T)) (hget : typeLookup (.type T) "__get__" = pure (some (.builtin gid))) (hT : bt = "method-wrapper" ∨ bt = "builtin_function_or_method")
    (hcall : ∀ {h : Heap} {g : Array GenState} {d : Drawn} {os : OsState} {nm q : Str} {C N x : Addr} {bs : List Value} {sn : List Str} {sub : List Value} {ab : Bool} {col : Option Bool} {dd : Option Addr} {k0 k1 k2 k3 k5 : Option Value} {newId : String} {o : Obj},
      h.get? C = some (excClassObj nm q C N bs bmL true sn sub ab col dd k0 k1 k2 k3 k5 newId) → h.get? x = some o → o.cls = .ref C → ∀ (A : Around) t, wpAny (model thePr w) A (PySem.call (.builtin gid) [.builtin id, .ref x, .ref C]) (fun v s₁ => v = .ref h.objs.size ∧ s₁ = ⟨h.push (boundO bt id x), g, d, t, os⟩) (fun _ _ => False) ⟨h, g, d, t, os⟩)
    (hchk : ∀ (s : Shared), AccAt s.heap → PileAt s.heap p stt ps → ∀ (A : Around) (Q : Unit → Shared → Prop) (E : Value → Shared → Prop), Q () s → wpAny (model thePr w) A (checkBoundCall id ⟨[.ref p], []⟩) Q E s) (hpl : plainId id = true) (entry : entryFor table id = some B)
    {pl : Sem Bool} (he : eval (.Call (.Attribute (.Call (.Name "super" p0) [] [] p1) name apos) [] [] pos) (callEnv (fdM nm0 q0 st dV pm ct c [("__class__", 78)]) L f) = (do
      let ov ← attributeBase (.Call (.Name "super" p0) [] [] p1) name (callEnv (fdM nm0 q0 st dV pm ct c [("__class__", 78)]) L f) (eval (.Call (.Name "super" p0) [] [] p1) (callEnv (fdM nm0 q0 st dV pm ct c [("__class__", 78)]) L f))
      standAt apos.atName
      let (f', first) ← holding [ov] (getMethod ov name pl)
      callWith pos f' first (backTo pos (starEach [] (callEnv (fdM nm0 q0 st dV pm ct c [("__class__", 78)]) L f))) []))
    (hB : ∀ (s₁ : Shared), Keeps s s₁ → AccAt s₁.heap → PileAt s₁.heap p stt ps → wpAny (model thePr w) A.in1 (B ⟨[.ref p], []⟩) (fun fin s' => match fin with | .done f => wants Q E (.ok f) s' | .again c' => c'.quiet = true ∧ codeAny (model thePr w) A c' (wants Q E) s') (fun e s' => wants Q E (.error e) s') s₁) :
    _root_.PySem.wpAt (model thePr w) A (.func body (callEnv (fdM nm0 q0 st dV pm ct c [("__class__", 78)]) L f)) (eval (.Call (.Attribute (.Call (.Name "super" p0) [] [] p1) name apos) [] [] pos) (callEnv (fdM nm0 q0 st dV pm ct c [("__class__", 78)]) L f)) Q E s := by
  have Pc := P
  obtain ⟨o, items, n, dx, u, ho, hcl, hdd, _⟩ := Pc
  obtain ⟨nm, q, sn, sub, ab, col, dd, k0, k1, k2, k3, k5, e⟩ := C.cls
  obtain ⟨oc, vs, tf, hoc, hocc, hocd, hvs⟩ := hc
  obtain ⟨mc, hmc, hmce⟩ := hO
  obtain ⟨mg, ng, _, rb, _⟩ := Bs.gl
  obtain ⟨mb, nb, rb'⟩ := Bs.bl
  have hpC : p ≠ 154 := by rintro rfl; rw [e] at ho; cases ho; cases hdd
  refine ks_wpAt_MethodCall (pl := pl) (ks_wpAt_super_base hks hkc hat rfl F Fd hp rfl hoc hocd hvs (by simp) (by rfl) ?_) he
  refine ks_loadName_global hk hks (loadGlobal_builtin (mg := mg) (mb := mb) ng (rb _ _ rfl) nb (rb' _ _ rfl) ⟨rfl, ?_⟩)
  refine wpAny_loadName_free hk hkc rfl C.cell ?_
  refine wpAny_loadName_local hk hka hn hv ?_
  obtain ⟨hp', g, d, tk, os⟩ := s
  refine ks_wpAny_isType_cls e rfl ⟨rfl, ?_⟩
  refine ks_wpAny_call_super e rfl ho hcl (fun c e' => by rw [hdd] at e'; cases e') (fun A Q E s k q => ?_) (fun h' e' k => ?_)
  · obtain ⟨hp2, g, d, tk, os⟩ := s
    exact wpAny_isSubtype_exc (k _ _ e) (by simpa using q)
  · have C' := C.kp (.of_keep k)
    have P' := P.kf k
    refine methodSB (k _ _ e) e' (looks_opq (ns_kp (.of_keep k) hmc) hmce) own hty hget hpC hat (hcall (k _ _ e) (k _ _ ho) hcl) ?_
    refine callWith_of (args := []) (keywords := []) (P := fun h => h.get? h'.objs.size = some (boundO bt id p)) rfl (fun h hb => ⟨.machine, .inr (.inl rfl), (Looks.ld (part := none) hb).andThen ?_⟩) (PyProof.Rows.evalArgs_none ?_)
    · rcases hT with rfl | rfl <;> exact .now
    · have kk : Kf h' (h'.push (boundO bt id p)) := fun b o e => Heap.get?_push_of_some _ e
      refine ⟨Heap.get?_push_size _ rfl, ?_⟩
      refine wpAny_call (call_bound (x := p) (Heap.get?_push_size _ rfl) hT (hchk _ (C'.kp (.of_keep kk)) (P'.kf kk)) hpl entry ?_)
      exact hB _ ⟨_, _, rfl, fun b o e => kk _ _ (k _ _ e)⟩ (C'.kp (.of_keep kk)) (P'.kf kk)

theorem wp_seqSize {M : Model} {a : Addr} {o : Obj} {xs : Array Value} {n : Nat} {Q : Nat → Shared → Prop} (ho : s.heap.get? a = some o) (hd : o.data = .seq xs n) (hq : Q xs.size s) : wpAny M A (seqSize a) Q E s := by
  unfold seqSize
  refine wpAny_bind (wpAny_loadPart ho ?_)
  rw [hd]
  exact wpAny_pure hq
theorem callMAt {a c : Addr} {nm q : Str} {st : Stmt} {dV : Value} {cl : List (Str × Addr)} {args : List Value} {kw : List (Str × Value)} {binds : List (Str × Value)} (F : MAt s.heap a nm q st dV c cl) (lim : s.heap.NoLimit) (hroom : A.depth < recursionLimit)
    (hbind : ∀ pm ct, BindsTo s (fdM nm q st dV pm ct c cl) ⟨args, kw⟩ binds) (hcell : ∀ x ∈ (dScope st).names, x.2 ≠ .cell) (hloc : ∀ x ∈ binds, (dScope st).names.lookup x.1 = some .local)
    (body : ∀ pm ct of h₀, s.heap.get? a = some of → of.data = .func (fdM nm q st dV pm ct c cl) → h₀.Ns s.heap.objs.size (fun x => binds.reverse.lookup x) → Kf s.heap h₀ →
      _root_.PySem.wpAt (model thePr w) (A.deeper (callEnv (fdM nm q st dV pm ct c cl) s.heap.objs.size a)) (.func (dBody st) (callEnv (fdM nm q st dV pm ct c cl) s.heap.objs.size a)) (execs (dBody st) (callEnv (fdM nm q st dV pm ct c cl) s.heap.objs.size a)) (fun f s' => Q (match f with | .ret v => v | _ => .none) s') (fun _ _ => False) { s with heap := h₀, toks := s.toks + binds.length })
    (hco : autoParam ((dScope st).isCoroutine = false) byRfl) (hgen : autoParam ((dScope st).isGenerator = false) byRfl) (hk : autoParam ((dScope st).kind = .function) byRfl) :
    wpAny (model thePr w) A (PySem.call (.ref a) args kw) Q E s := by
  obtain ⟨⟨o, pm, ct, ho, _, hd⟩, hc⟩ := F
  refine wpAny_call (ks_codeAny_call_defAt hroom ho hd lim hc.rec' rfl (hbind pm ct) hcell hloc (fun h₀ n k => ?_) hco hgen hk)
  exact ks_wpAt_mono (body pm ct o h₀ ho hd n k) (fun _ _ x => x) fun _ _ x => x.elim
/- part_count -/
theorem part_count_ok {p : Addr} {st : Int} {ps : List PyData} (hA : Room 2 A) (B : Base s.heap) (hO : OpqAt s.heap) (C : AccAt s.heap) (hcf : CfAt s.heap 150) (F : MAt s.heap 151 "part_count" "_Accumulator.part_count" (mSt 8) .none 150 [("__class__", 78)]) (P : PileAt s.heap p st ps) (hz : ps.length ≤ 1000)
    (hQ : ∀ u s', Keeps s s' → Q (.int ps.length u) s') : wpAny (model thePr w) A (PySem.call (.ref 151) [.ref p]) Q E s := by
  refine callMAt (binds := [("self", .ref p)]) F B.lim hA.here (fun pm ct => .of_eq rfl) (by decide) (locs rfl) fun pm ct of h₀ hof hofd n k => ?_
  refine ks_wpAt_execs_cons (ks_wpAt_Return_some ?_)
  refine superCall (st := mSt 8) (p := p) (id := "list.__len__") (bt := "method-wrapper") (gid := "wrapper_descriptor.__get__") (k _ _ hof) hofd (hcf.kp (.of_keep k)) (hO.kp (.of_keep k)) (B.kp (.of_keep k)) (C.kp (.of_keep k)) (P.kf k) n rfl rfl rfl rfl rfl rfl rfl own_list_len type_list_len slot_wd_get.lookup (.inl rfl)
    (fun hC hx hc A t => get_len hC hx hc) (fun s _ _ A Q E hq => wpAny_of_eq (by kernel_rfl) hq) (by decide +kernel) PySem.F.entry_list_len rfl fun s₁ k₁ C₁ P₁ => ?_
  obtain ⟨o, items, n1, dx, u1, ho, hcl, hdd, _, _, _, _, r⟩ := P₁
  have hsz : items.size = ps.length := by have := readsAll_length r; rwa [Array.length_toList] at this
  obtain ⟨h₁, tk₁, rfl, k₁⟩ := k₁
  show wpAny _ _ (seqSize p >>= fun n => retInt n) _ _ _
  refine wpAny_bind (wp_seqSize ho hdd ?_)
  rw [hsz]
  refine wpAny_bind (wpAny_mkInt (wpAny_pure ?_))
  exact hQ _ _ ⟨h₁, _, rfl, fun b o e => k₁ b o (k b o e)⟩
end
end Mine
set_option maxRecDepth 100000
set_option linter.all false
namespace Mine
open PySem PySem.Spec PySem.Calls PyProof.Rows PySem.W
section
variable {w : World} {A : Around} {E : Value → Shared → Prop} {s : Shared} {Q : Value → Shared → Prop} {env : Env} {G : Heap → Prop}
/- x.name(args), name a def of the class -/
theorem wp_methP {x name : Str} {p f : Addr} {of : Obj} {fd : FuncData} {st : Int} {ps : List PyData} {px apos pos : Pos} {pl : Sem Bool} {args : List Expr} {y : Option Value} (g : G s.heap) (hn : NV env G x (.ref p)) (C : AccAt s.heap) (P : PileAt s.heap p st ps) (hf : accNs.lookup name = some f) (hof : s.heap.get? f = some of) (hoc : of.cls = .type "function")
    (hsh : name ≠ "_initial_size") (hB : typeLookup (.type "list") name = pure y)
    (he : eval (.Call (.Attribute (.Name x px) name apos) args [] pos) env = (do
      let ov ← eval (.Name x px) env
      standAt apos.atName
      let (f, first) ← holding [ov] (getMethod ov name pl)
      callWith pos f first (backTo pos (starEach args env)) []))
    (hc : wpAny (model thePr w) A (callWith pos (.ref f) [.ref p] (backTo pos (starEach args env)) []) Q E s) :
    wpAny (model thePr w) A (eval (.Call (.Attribute (.Name x px) name apos) args [] pos) env) Q E s := by
  refine MethodCall_ (pl := pl) (hn _ _ _ _ _ _ g ?_) he
  obtain ⟨u, I⟩ := P.inst
  obtain ⟨nm, q, sn, sub, ab, col, dd, k0, k1, k2, k3, k5, e⟩ := C.cls
  obtain ⟨mN, nN, hN, hfree⟩ := C.ns
  obtain ⟨hp, gg, dr, tk, os⟩ := s
  exact method_ofL e nN (hfree _ (by decide)) (hfree _ (by decide)) (hN _ _ hf) hof hoc hB I (by rw [if_neg hsh]) hc
theorem wp_meth0 {x name : Str} {p f : Addr} {of : Obj} {fd : FuncData} {st : Int} {ps : List PyData} {px apos pos : Pos} {pl : Sem Bool} {y : Option Value} (g : G s.heap) (hn : NV env G x (.ref p)) (C : AccAt s.heap) (P : PileAt s.heap p st ps) (hf : accNs.lookup name = some f) (hof : s.heap.get? f = some of) (hoc : of.cls = .type "function") (hod : of.data = .func fd)
    (hsh : name ≠ "_initial_size") (hB : typeLookup (.type "list") name = pure y)
    (he : eval (.Call (.Attribute (.Name x px) name apos) [] [] pos) env = (do
      let ov ← eval (.Name x px) env
      standAt apos.atName
      let (f, first) ← holding [ov] (getMethod ov name pl)
      callWith pos f first (backTo pos (starEach [] env)) []))
    (hc : wpAny (model thePr w) A (PySem.call (.ref f) [.ref p]) Q E s) :
    wpAny (model thePr w) A (eval (.Call (.Attribute (.Name x px) name apos) [] [] pos) env) Q E s := by
  refine wp_methP (fd := fd) g hn C P hf hof hoc hsh hB he ?_
  refine callWith_of (args := []) (keywords := []) (P := fun h => h.get? f = some of) rfl (fun h hb => ⟨.frame, .inl rfl, (Looks.ld (part := none) hb).andThen ?_⟩) (PyProof.Rows.evalArgs_none ⟨hof, hc⟩)
  rw [hod]; exact .now
theorem lk_part_count : typeLookup (.type "list") "part_count" = pure none := by rw [typeLookup_type, builtinLookup_eq_fast]; kernel_rfl
noncomputable abbrev sigPop : Manifest.Signature := ⟨.positional, "list.pop", "pop", .self, [⟨"index", .posOnly, false⟩]⟩
theorem sig_list_pop : Manifest.signature? "list.pop" = some sigPop := by
  rw [signature?_of (id := "list.pop") (n := ['p', 'o', 'p']) (o := ['t', 's', 'i', 'l']) (by kernel_rfl) PySem.F.owner_list]; kernel_rfl
theorem ok_list_pop (x : Value) : Bind.checkArgs "list.pop" { sigPop with full := toString (Str.ofString "_Accumulator").toString ++ toString "." ++ toString (Bind.lastOf "list.pop") } ⟨[x], []⟩ = pure () := by kernel_rfl
theorem check_bound_pop {M : Model} {p : Addr} {st : Int} {ps : List PyData} {Q : Unit → Shared → Prop} (C : AccAt s.heap) (P : PileAt s.heap p st ps) (hq : Q () s) : wpAny M A (checkBoundCall "list.pop" ⟨[.ref p], []⟩) Q E s := by
  have hs := sig_list_pop
  have hqn := C.qn
  obtain ⟨o, items, n, dx, u, ho, hc, hdd, _⟩ := P
  obtain ⟨nm, q, sn, sub, ab, col, dd, k0, k1, k2, k3, k5, e⟩ := C.cls
  obtain rfl : q = "_Accumulator" := by
    obtain ⟨o', cd, ho', hd', e'⟩ := hqn
    rw [e] at ho'; cases ho'; cases hd'; exact e'
  obtain ⟨hp, g, dr, tk, os⟩ := s
  have hk : builtinKind "list.pop" = some .method := by decide +kernel
  have hv : Manifest.varargsMethods.contains "list.pop" = false := by decide +kernel
  have hcM : (Value.ref 154 :: bmL).contains (.type "module") = false := by decide
  simp only [checkBoundCall, hs, hk]
  rw [if_neg (by decide)]
  unfold isInstance
  refine wpAny_bind (wpAny_bind (typeOf_ref ho ?_))
  rw [hc]
  refine wpAny_isSubtype_exc e ?_
  rw [hcM, hv]
  rw [if_neg (by decide)]
  refine wpAny_bind (ks_wpAny_isType_inst ho (fun c q => by rw [hdd] at q; cases q) ?_)
  rw [if_neg (by decide)]
  refine wpAny_bind (typeOf_ref ho ?_)
  rw [hc]
  dsimp only
  refine wpAny_bind ?_
  unfold classData
  refine wpAny_bind (wpAny_load e (wpAny_pure ?_))
  refine wpAny_bind (typeOf_ref e ?_)
  rw [if_pos (show ((Value.type "type") == Value.type "type") = true by decide)]
  exact wpAny_of_eq (ok_list_pop _) hq
/- pop -/
theorem pop_ok {p : Addr} {st : Int} {ps : List PyData} (hA : Room 3 A) (B : Base s.heap) (hO : OpqAt s.heap) (C : AccAt s.heap) (hcf : CfAt s.heap 150) (hcf' : CfAt s.heap 113) (F : MAt s.heap 151 "part_count" "_Accumulator.part_count" (mSt 8) .none 150 [("__class__", 78)]) (F' : MAt s.heap 114 "pop" "_Accumulator.pop" (mSt 3) .none 113 [("__class__", 78)]) (P : PileAt s.heap p st ps) (hz : ps.length ≤ 1000) (hf : flatAll ps = true)
    (hQ0 : ps = [] → ∀ v s', Rds s'.heap v (.tuple [.str "", .str ""]) [] → Keeps s s' → Q v s')
    (hQ1 : ∀ ps' d v h' tk, ps = ps' ++ [d] → Rds h' v d [] → PileAt h' p st ps' → KBut p s.heap h' → Q v { s with heap := h', toks := tk }) : wpAny (model thePr w) A (PySem.call (.ref 114) [.ref p]) Q E s := by
  refine callMAt (binds := [("self", .ref p)]) F' B.lim hA.here (fun pm ct => .of_eq rfl) (by decide) (locs rfl) fun pm ct of h₀ hof hofd n k => ?_
  have g : GF s.heap s.heap.objs.size [] [("self", .ref p)] h₀ := GF.start n k (fun q hq => by simp at hq) (by intro q hq; simp at hq; subst hq; rfl)
  have hA' := hA.deeper (callEnv (fdM "pop" "_Accumulator.pop" (mSt 3) .none pm ct 113 [("__class__", 78)]) s.heap.objs.size 114)
  refine ks_wpAt_execs_cons (ks_wpAt_If (wpAt_of_wpAny ?_))
  refine wpAny_mono (TV.eqi (i := ps.length) (j := 0) (G := GF s.heap s.heap.objs.size [] [("self", .ref p)]) (f := false) mono_GF ?_ EV.int rfl _ _ g) (fun b s₁ h₁ => ?_) fun _ _ x => x
  · intro s₁ E₁ g₁
    obtain ⟨⟨o, pm', ct', ho, hoc, hod⟩, _⟩ := F
    refine wp_meth0 (f := 151) g₁ (NV.loc rfl rfl rfl rfl rfl) (C.kp (.of_keep g₁.1)) (P.kf g₁.1) rfl (g₁.1 _ _ ho) hoc hod (by decide) lk_part_count rfl ?_
    exact part_count_ok hA' (B.kp (.of_keep g₁.1)) (hO.kp (.of_keep g₁.1)) (C.kp (.of_keep g₁.1)) (hcf.kp (.of_keep g₁.1)) (MAt.kp (.of_keep g₁.1) ⟨⟨o, pm', ct', ho, hoc, hod⟩, by assumption⟩) (P.kf g₁.1) hz fun u s' k' => ⟨⟨[], .int _ _, ff⟩, k'⟩
  · obtain ⟨rfl, h₁, tk₁, rfl, k₁⟩ := h₁
    have g₁ := mono_GF _ _ k₁ g
    by_cases h0 : ps = []
    · subst h0
      rw [if_pos (show (((([] : List PyData).length : Nat) : Int) == 0) = true from rfl)]
      refine wpAt_of_wpAny (st_ret (d := .tuple [.str "", .str ""]) g₁ (EV.tuple (f := true) (.cons mono_GF EV.str (.cons mono_GF EV.str .nil)) (show 2 ≤ sizeLine by decide)) fun v s' cs rv _ k' => ?_)
      have := rds_flat rv rfl
      subst this
      exact hQ0 rfl v s' rv (keeps_trans ⟨h₁, _, rfl, g₁.1⟩ k')
    · have hl : (((ps.length : Nat) : Int) == 0) = false := by
        have : ps.length ≠ 0 := by simpa using h0
        simp; omega
      rw [hl, if_neg (by decide)]
      refine wpAt_of_wpAny (wpAny_execs_nil ?_)
      refine ks_wpAt_execs_cons (ks_wpAt_Return_some ?_)
      have kk : Kf s.heap h₁ := g₁.1
      refine superCall (st := mSt 3) (p := p) (id := "list.pop") (bt := "builtin_function_or_method") (gid := "method_descriptor.__get__") (kk _ _ hof) hofd (hcf'.kp (.of_keep kk)) (hO.kp (.of_keep kk)) (B.kp (.of_keep kk)) (C.kp (.of_keep kk)) (P.kf kk) (ns_kp (.of_keep k₁) n) rfl rfl rfl rfl rfl rfl rfl own_list_pop PySem.F.type_list_pop slot_md_get.lookup (.inr rfl)
        (fun hC hx hc A t => get_pop hC hx hc) (fun s C P A Q E hq => check_bound_pop C P hq) (by decide +kernel) PySem.F.entry_list_pop rfl fun s₂ k₂ C₂ P₂ => ?_
      obtain ⟨ps', d, rfl⟩ : ∃ ps' d, ps = ps' ++ [d] := ⟨ps.dropLast, ps.getLast h0, (List.dropLast_concat_getLast h0).symm⟩
      have P₃ := P₂
      obtain ⟨o, items, n1, dx, u1, ho, hcl, hdd, _, _, _, _, r⟩ := P₃
      have hsz : items.size = ps'.length + 1 := by have := readsAll_length r; rw [Array.length_toList] at this; simpa using this
      obtain ⟨vl, bs, hvl, rvl⟩ := readsAll_get r (i := ps'.length) (d := d) (by simp)
      have hfd : flat d = true := flatAll_iff.mp hf d (by simp)
      have := rds_flat rvl hfd
      subst this
      obtain ⟨h₂, tk₂, rfl, k₂⟩ := k₂
      show wpAny _ _ (Builtin.List.listItems (.ref p) >>= _) _ _ _
      unfold Builtin.List.listItems
      refine wpAny_bind (wpAny_bind (wpAny_seqItems ho hdd (wpAny_pure ?_)))
      rw [if_neg (by simp [Array.isEmpty, hsz])]
      have hidx : (seqIndex? (-1) items.size).bind (fun k => items[k]?.map (k, ·)) = some (ps'.length, vl) := by
        have h1 : seqIndex? (-1) items.size = some ps'.length := by
          unfold seqIndex?
          rw [hsz]
          simp
          omega
        rw [h1]
        have h2 : items[ps'.length]? = some vl := by simpa using hvl
        simp [h2]
      rw [hidx]
      dsimp only
      refine wpAny_bind (m := updateSeq p _) (wp_updP (s := { s with heap := h₂, toks := tk₂ }) P₂ hz (ps' := ps') (fun its hs r => ?_) ?_ fun h' P' k' => wpAny_pure ?_)
      · have e1 : (its.eraseIdxIfInBounds ps'.length).toList = its.toList.take ps'.length := by
          have hh : its.size = ps'.length + 1 := by rw [hs]; simp
          unfold Array.eraseIdxIfInBounds
          rw [dif_pos (by omega)]
          rw [Array.toList_eraseIdx, List.eraseIdx_eq_take_drop_succ]
          rw [List.drop_of_length_le (by rw [Array.length_toList]; omega)]
          simp
        refine ⟨?_, ?_⟩
        · rw [e1]
          have := rdsAll_take r ps'.length
          simpa using this
        · have h3 : (its.eraseIdxIfInBounds ps'.length).size = (its.toList.take ps'.length).length := by rw [← e1]; rfl
          have h4 : (its.toList.take ps'.length).length ≤ ps'.length := List.length_take_le _ _
          simp at hz
          show (its.eraseIdxIfInBounds ps'.length).size ≤ 1001
          omega
      · exact flatAll_iff.mpr fun d hd => flatAll_iff.mp hf d (by simp [hd])
      · have rv' : Rds h' vl d [] := rds_pbut ho hcl k' rvl
        exact hQ1 ps' d vl h' _ rfl rv' P' (KBut.pre (Kf.trans kk k₂) k')
end
end Mine
set_option maxRecDepth 100000
set_option linter.all false
namespace Mine
open PySem PySem.Spec PySem.Calls PyProof.Rows PySem.W
section
variable {w : World} {A : Around} {E : Value → Shared → Prop} {s : Shared} {Q : Value → Shared → Prop}
/- __init__ -/
theorem init_ok {p dx : Addr} {st : Int} {u : Tok} {n0 : Nat} {hb : Heap} (hA : Room 3 A) (Bb : Base hb) (Ob : OpqAt hb) (Cb : AccAt hb) (cfb : CfAt hb 90) (dfb : ∃ t, hb.get? 83 = some (tupO #[.int 0 t] 0)) (khb : Kf hb s.heap) (hbp : hb.get? p = none) (hbd : hb.get? dx = none) (Fb : MAt hb 91 "__init__" "_Accumulator.__init__" (mSt 0) (.ref 83) 90 [("__class__", 78)])
    (ho : s.heap.get? p = some { cls := .ref 154, dict := some dx, data := .seq #[] n0, slots := #[] }) (hdp : dx ≠ p) (hnd : s.heap.Ns1 dx fun _ => none)
    (hQ : ∀ h' tk, PileAt h' p st [] → (∀ b o, b ≠ p → b ≠ dx → s.heap.get? b = some o → h'.get? b = some o) → Q .none { s with heap := h', toks := tk }) : wpAny (model thePr w) A (PySem.call (.ref 91) [.ref p, .int st u]) Q E s := by
  have B := Bb.kp (.of_keep khb)
  have C := Cb.kp (.of_keep khb)
  have F := Fb.kp (.of_keep khb)
  obtain ⟨t0, hdf⟩ := dfb
  replace hdf := khb _ _ hdf
  refine callMAt (binds := [("self", .ref p), ("initial_size", .int st u)]) F B.lim hA.here (fun pm ct => .of_defaults rfl hdf rfl rfl rfl) (by decide) (locs rfl) fun pm ct of h₀ hof hofd n k => ?_
  have g : GF s.heap s.heap.objs.size [("initial_size", .int st)] [("self", .ref p), ("initial_size", .int st u)] h₀ := GF.start n k (fun q hq => by simp at hq; subst hq; exact ⟨_, _, rfl, .int _ _⟩) (by intro q hq; simp at hq; rcases hq with rfl | rfl <;> rfl)
  refine ks_wpAt_execs_cons (ks_wpAt_Assign_Attr (wpAt_of_wpAny (NV.loc (v := .int st u) rfl rfl rfl rfl rfl _ _ _ _ _ _ g ?_)) rfl)
  refine NV.loc (v := .ref p) rfl rfl rfl rfl rfl _ _ _ _ _ _ g ?_
  have C₀ := C.kp (.of_keep k)
  obtain ⟨nm, q, sn, sub, ab, col, dd, k0, k1, k2, k3, k5, e⟩ := C₀.cls
  obtain ⟨mN, nN, _, hfree⟩ := C₀.ns
  have hpC : p ≠ 154 := by rintro rfl; have := k _ _ ho; rw [e] at this; cases this
  refine store_attr (mA := fun _ => none) (ns := []) store_list e nN (hfree _ (by decide)) (hfree _ (by decide)) lk_list_init_size hpC ⟨_, k _ _ ho, rfl, (fun c q => by cases q), .inr ⟨dx, rfl, hdp, hnd.at fun o e => k _ _ e⟩⟩ (fun h₁ tk₁ I₁ kp₁ keep₁ => ?_) ?_ ?_
  · have P₁ : PileAt h₁ p st [] := by
      obtain ⟨o₁, ho₁, hc₁, hd₁, hs₁, _⟩ := keep₁ _ (k _ _ ho)
      obtain ⟨o₂, ho₂, _, _, hdd⟩ := I₁
      rw [ho₁] at ho₂; cases ho₂
      rcases hdd with ⟨_, hno⟩ | ⟨dx', hdx, hne, hns⟩
      · have := hno "_initial_size"
        simp at this
      · exact ⟨o₁, #[], n0, dx', u, ho₁, hc₁, hd₁, hs₁, hdx, hne, hns, .nil⟩
    have kb : ∀ b o, b ≠ p → b ≠ dx → h₀.get? b = some o → h₁.get? b = some o := fun b o hb hb2 e => kp₁ b o hb (fun o₀ dx' he hd => by rw [k _ _ ho] at he; cases he; cases hd; exact hb2) e
    have kb1 : Kf hb h₁ := fun b o e => kb b o (by rintro rfl; rw [hbp] at e; cases e) (by rintro rfl; rw [hbd] at e; cases e) (k _ _ (khb _ _ e))
    have hne : s.heap.objs.size ≠ p := fun q => by have := Heap.lt_size ho; rw [q] at this; exact Nat.lt_irrefl _ this
    have hne2 : s.heap.objs.size ≠ dx := fun q => by
      obtain ⟨o', es, ep, ho', _⟩ := hnd
      have := Heap.lt_size ho'
      rw [q] at this; exact Nat.lt_irrefl _ this
    have hof1 : h₁.get? 91 = some of := by
      obtain ⟨⟨o, pm', ct', ho', _⟩, _⟩ := Fb
      have := khb _ _ ho'
      rw [hof] at this; cases this
      exact kb1 _ _ ho'
    refine ks_wpAt_execs_cons (ks_wpAt_Expr_any (superCall (st := mSt 0) (p := p) (id := "list.__init__") (bt := "method-wrapper") (gid := "wrapper_descriptor.__get__") (ps := []) hof1 hofd (cfb.kp (.of_keep kb1)) (Ob.kp (.of_keep kb1)) (Bb.kp (.of_keep kb1)) (Cb.kp (.of_keep kb1)) P₁ (n.at' fun o eo => kb _ o hne hne2 eo) rfl rfl rfl rfl rfl rfl rfl own_list_init type_list_init slot_wd_get.lookup (.inl rfl)
      (fun hC hx hc A t => get_init hC hx hc) (fun s _ _ A Q E hq => wpAny_of_eq (by kernel_rfl) hq) (by decide +kernel) PySem.F.entry_list_init rfl fun s₂ k₂ C₂ P₂ => ?_))
    have P₃ := P₂
    obtain ⟨o, items, n1, dx2, u1, ho2, hcl, hdd, _⟩ := P₃
    obtain ⟨h₂, tk₂, rfl, k₂⟩ := k₂
    show wpAny _ _ (Builtin.List.listItems (.ref p) >>= _) _ _ _
    unfold Builtin.List.listItems
    refine wpAny_bind (wpAny_bind (wpAny_seqItems ho2 hdd (wpAny_pure ?_)))
    refine wpAny_bind (m := updateSeq p _) (wp_updP (s := { s with heap := h₂, toks := tk₂ }) P₂ (by simp) (ps' := []) (fun its hs r => ⟨.nil, by simp⟩) rfl fun h' P' k' => ?_)
    refine wpAny_bind (wpAny_letGo (wpAny_pure ?_))
    refine wpAt_of_wpAny (wpAny_execs_nil ?_)
    exact hQ h' _ P' fun b o hb' hb2 e => k' b o hb' (k₂ _ _ (kb b o hb' hb2 (k _ _ e)))
  · intro n hn
    simp at hn
  · exact Nat.zero_le _
end
end Mine
set_option maxRecDepth 100000
set_option linter.all false
namespace Mine
open PySem PySem.Spec PySem.Calls PyProof.Rows PySem.W
theorem entry_list_new : entryFor table "list.__new__" = some Builtin.«list.__new__» := entryFor_of_tree (by kernel_rfl)
section
variable {prog : Program} {w : World} {A : Around} {R : Result → Shared → Prop} {h : Heap} {g : Array GenState} {d : Drawn} {t : Nat} {os : OsState}
variable {nm q : Str} {C N x so : Addr} {bs : List Value} {sn : List Str} {sub : List Value} {ab : Bool} {col : Option Bool} {dd : Option Addr} {k0 k1 k2 k3 k5 : Option Value} {newId : String}
theorem code_list_new {rest : List Value} (hC : h.get? C = some (excClassObj nm q C N bs bmL true sn sub ab col dd k0 k1 k2 k3 k5 newId))
    (hq : ∀ h' p dx, (∀ b o, h.get? b = some o → h'.get? b = some o) → h.get? p = none → h.get? dx = none → dx ≠ p → h'.get? p = some { cls := .ref C, dict := some dx, data := .seq #[] 0, slots := #[] } → h'.Ns1 dx (fun _ => none) → R (.ok (.ret (.ref p))) ⟨h', g, d, t, os⟩) :
    codeAny (model prog w) A (.builtin "list.__new__" ⟨.ref C :: rest, []⟩) R ⟨h, g, d, t, os⟩ := by
  have hcB : (Value.ref C :: bmL).contains (.type "list") = true := by rw [List.contains_cons]; simp
  have how : (("list.__new__".splitOn ".__new__").headD "") = "list" := by first | rfl | (unfold String.splitOn; simp +decide [String.splitOnAux])
  refine codeAny_builtinAt entry_list_new ?_
  unfold Builtin.«list.__new__»
  refine PySem.wpAt_bind (PySem.wpAt_stack fun p below => PySem.wpAt_of_wpAny ?_)
  dsimp only
  rw [how]
  refine wpAny_bind (ks_wpAny_isType_cls hC rfl ?_)
  rw [if_neg (by decide)]
  refine wpAny_bind (wpAny_isSubtype_exc hC ?_)
  rw [hcB, if_neg (by decide)]
  refine wpAny_bind (m := (pure (Data.seq #[]) : Sem Data)) (wpAny_pure ?_)
  rw [if_neg (by show ¬ ((!true) = true); decide)]
  repeat wp_step
  refine hq _ _ h.objs.size (fun b o e => Heap.get?_push_of_some _ (Heap.get?_push_of_some _ e)) (fresh_ge (by rw [Heap.size_push]; exact Nat.le_succ _)) (fresh_size _) (by rw [Heap.size_push]; exact Nat.ne_of_lt (Nat.lt_succ_self _)) (Heap.get?_push_size _ rfl) ?_
  refine ⟨_, #[], 0, Heap.get?_push_of_some _ (Heap.get?_push_size _ rfl), rfl, ?_, ?_, ?_⟩
  · intro e he; simp at he
  · exact List.Pairwise.nil
  · intro name; rfl
end
end Mine
set_option maxRecDepth 100000
set_option linter.all false
namespace Mine
open PySem PySem.Spec PySem.Calls PyProof.Rows PySem.W
theorem kind_list_new : builtinKind "list.__new__" = some .builtinFn := by decide +kernel
theorem split_list_new : splitId "list.__new__" = some ("list", "__new__") := by decide +kernel
theorem row_list_new : Manifest.signature? "list.__new__" = some ⟨.any, "list", "list", .cls, [⟨"args", .varPos, false⟩, ⟨"kwargs", .varKw, false⟩]⟩ := by
  rw [signature?_of (id := "list.__new__") (n := "__new__".toList.reverse) (o := ['t', 's', 'i', 'l']) (by kernel_rfl) PySem.F.owner_list]; kernel_rfl
section
variable {M : Model} {w : World} {A : Around} {E : Value → Shared → Prop} {h : Heap} {g : Array GenState} {d : Drawn} {t : Nat} {os : OsState}
theorem check_list_new {v : Value} {nm q : Str} {C N : Addr} {bs : List Value} {sn : List Str} {sub : List Value} {ab : Bool} {col : Option Bool} {dd : Option Addr} {k0 k1 k2 k3 k5 : Option Value} {Q : Unit → Shared → Prop}
    (hC : h.get? C = some (excClassObj nm q C N bs bmL true sn sub ab col dd k0 k1 k2 k3 k5 "list.__new__")) (hq : Q () ⟨h, g, d, t, os⟩) :
    wpAny M A (checkBuiltinCall "list.__new__" ⟨[.ref C, v], []⟩) Q E ⟨h, g, d, t, os⟩ := by
  have hcont : (Value.ref C :: bmL).contains (.type "list") = true := by rw [List.contains_cons]; simp
  have hstar : (("list" : String) == "*") = false := by decide
  simp only [checkBuiltinCall, kind_list_new, split_list_new, row_list_new]
  repeat (first | refine wpAny_loadPart_at hC ?_ | (refine wpAny_isSubtype_exc hC ?_; rw [hcont]) | refine wpAny_staticBase_exc hC ?_ | refine wpAny_madeBy_exc hC ?_ | simp only [bne_self_eq_false, Bool.false_eq_true, if_false] | wp_step)
  exact hq
end
end Mine
set_option maxRecDepth 100000
set_option linter.all false
namespace Mine
open PySem PySem.Spec PySem.Calls PyProof.Rows PySem.W
theorem Room.in1 {n : Nat} {A : Around} (r : Room (n + 1) A) : Room n A.in1 := ⟨by have := r.depth; show A.depth + n < _; omega, by have := r.units; show A.units + 1 + 8 * n + 64 < _; omega, r.handled⟩
theorem weight_typeCall (a : Addr) (rest : List Value) (kw : List (Str × Value)) : (Code.builtin "type.__call__" ⟨.ref a :: rest, kw⟩).weight = 1 := by kernel_rfl
theorem units_typeCall (a : Addr) (rest : List Value) (kw : List (Str × Value)) : (Code.builtin "type.__call__" ⟨.ref a :: rest, kw⟩).cUnits = 1 := by kernel_rfl
theorem Room.typeCall {n : Nat} {A : Around} (r : Room (n + 1) A) (a : Addr) (rest : List Value) (kw : List (Str × Value)) : Room n (A.under (Code.builtin "type.__call__" ⟨.ref a :: rest, kw⟩)) :=
  ⟨by have := r.depth; show A.depth + _ + n < _; rw [weight_typeCall]; omega, by have := r.units; show A.units + _ + 8 * n + 64 < _; rw [units_typeCall]; omega, r.handled⟩
theorem lk_linit : typeLookup (.type "list") "__init__" = pure (some (.builtin "list.__init__")) := by rw [typeLookup_type, builtinLookup_eq_fast]; kernel_rfl
section
variable {w : World} {A : Around} {E : Value → Shared → Prop} {s : Shared} {Q : Value → Shared → Prop}
/- a special method that the class defines -/
theorem ownP {p f : Addr} {name : Str} {of : Obj} (C : AccAt s.heap) {o : Obj} (ho : s.heap.get? p = some o) (hc : o.cls = .ref 154) (hf : accNs.lookup name = some f) (hof : s.heap.get? f = some of) (hoc : of.cls = .type "function") {y : Option Value} (hB : typeLookup (.type "list") name = pure y) :
    s.heap.OwnSpecial p 154 f "list" name := by
  obtain ⟨nm, q, sn, sub, ab, col, dd, k0, k1, k2, k3, k5, e⟩ := C.cls
  obtain ⟨mN, nN, hN, hfree⟩ := C.ns
  exact ⟨o, of, nm, q, 153, _, bmL, true, sn, sub, ab, col, dd, k0, k1, k2, k3, k5, _, mN, y, ho, hc, e, nN, hN _ _ hf, hof, hoc, mro_list, hB⟩
/- _Accumulator(st) -/
theorem newP {st : Int} {u : Tok} (hA : Room 6 A) (Bb : Base s.heap) (Ob : OpqAt s.heap) (Cb : AccAt s.heap) (cfb : CfAt s.heap 90) (dfb : ∃ t, s.heap.get? 83 = some (tupO #[.int 0 t] 0)) (Fb : MAt s.heap 91 "__init__" "_Accumulator.__init__" (mSt 0) (.ref 83) 90 [("__class__", 78)])
    (hQ : ∀ p h' tk, s.heap.get? p = none → PileAt h' p st [] → Kf s.heap h' → Q (.ref p) { s with heap := h', toks := tk }) : wpAny (model thePr w) A (PySem.call (.ref 154) [.int st u]) Q E s := by
  obtain ⟨nm, q, sn, sub, ab, col, dd, k0, k1, k2, k3, k5, hC⟩ := Cb.cls
  obtain ⟨mN, nN, hN, hfree⟩ := Cb.ns
  obtain ⟨h, g, d, t, os⟩ := s
  have f1 := tc_lookup
  have f2 := tc_bind (.ref 154)
  have hT : (⟨h, g, d, t, os⟩ : Shared).TypeIs (.ref 154) "type" := ⟨_, hC, rfl⟩
  refine wpAny_call (codeAny_of_tree ?_)
  show wpAny _ _ (callAny (.ref 154) _) _ _ _
  repeat (any_goals (first | assumption | with_reducible refine wpAny_loadPart_at hC ?_ | wp_step))
  refine ⟨rfl, ?_⟩
  refine codeAny_call_builtin_at (Code.quiet_builtin _ (by decide +kernel)) entry_typeCall (wpAny_check_type_call_sub hC ?_)
  repeat (first | with_reducible refine wpAny_loadPart_at hC ?_ | with_reducible refine wpAny_madeBy_exc hC ?_ | wp_step)
  refine codeAny_call_builtin_code (Code.quiet_builtin _ (by decide +kernel)) (check_list_new hC ?_)
  refine code_list_new hC fun h' p dx k hp hdx hne ho hns => ?_
  show wpAny _ _ _ _ _ _
  have hcC : (Value.ref 154 :: bmL).contains (.ref 154) = true := by simp
  unfold isInstance
  refine wpAny_bind (wpAny_bind (typeOf_ref ho ?_))
  refine wpAny_isSubtype_exc (k _ _ hC) ?_
  rw [hcC]
  rw [if_neg (by decide)]
  refine wpAny_bind (wpAny_holding ?_)
  obtain ⟨⟨of, pm, ct, hof, hoc, hod⟩, _⟩ := id Fb
  have X := ownP (s := ⟨h', g, d, t, os⟩) (Cb.kp (.of_keep k)) ho rfl (name := "__init__") (f := 91) rfl (k _ _ hof) hoc lk_linit
  refine wpAny_callSpecial?_own X ?_
  refine init_ok (hb := h) (st := st) (u := u) (Room.le (n := 5) (m := 3) (Room.typeCall (n := 5) hA _ _ _) (by decide)) Bb Ob Cb cfb dfb k hp hdx Fb ho hne hns fun h₂ tk P hk => ?_
  show wpAny _ _ _ _ _ _
  dsimp only
  rw [if_neg (by decide)]
  refine wpAny_pure ?_
  exact hQ p h₂ tk hp P fun b o e => hk b o (by rintro rfl; rw [hp] at e; cases e) (by rintro rfl; rw [hdx] at e; cases e) (k _ _ e)
end
end Mine
set_option maxRecDepth 100000
set_option linter.all false
namespace Mine
open PySem PySem.Spec PySem.Calls PyProof.Rows PySem.W
/- a code object and its table of codes within -/
noncomputable def Tab (h : Heap) (c P : Addr) : Prop := ∃ ps, h.IsCode c P ps ∧ h.TableAt c P ps
noncomputable def Tab0 (h : Heap) (c P : Addr) : Prop := ∃ ps, h.TableAt c P ps
theorem Tab.kf {h h' : Heap} {c P : Addr} (k : Kf h h') (x : Tab h c P) : Tab h' c P := by
  obtain ⟨ps, a, b⟩ := x
  exact ⟨ps, a.keeps k, b.keeps k⟩
theorem Tab.obj {h : Heap} {c P : Addr} (x : Tab h c P) : ∃ o, h.get? P = some o ∧ tabby o = true := by
  obtain ⟨ps, _, _, e⟩ := x
  exact ⟨_, e, rfl⟩
theorem Tab.objc {h : Heap} {c P : Addr} (x : Tab h c P) : ∃ o, h.get? c = some o ∧ o.cls = .type "code" := by
  obtain ⟨ps, _, ⟨o, vs, e, c, _⟩, _⟩ := x
  exact ⟨_, e, c⟩
theorem Tab.but {h h' : Heap} {c P Q : Addr} (k : Heap.ExtBut Q h h') (hc : c ≠ Q) (hP : P ≠ Q) (x : Tab h c P) : Tab h' c P := by
  obtain ⟨ps, a, b⟩ := x
  exact ⟨ps, a.extBut k hc hP, b.extBut k hc hP⟩
/- the tables of __len__ and __str__ -/
structure Tabs (h : Heap) : Prop where
  l : Tab h 120 116
  s : Tab h 127 123
theorem Tabs.kf {h h' : Heap} (k : Kf h h') (x : Tabs h) : Tabs h' := ⟨x.l.kf k, x.s.kf k⟩
structure Tabs0 (h : Heap) : Prop where
  l : Tab0 h 120 116
  s : Tab0 h 127 123
/- all but the two tables stands, generators go bare -/
structure KG (s s' : Shared) : Prop where
  keep : ∀ b o, b ≠ 116 → b ≠ 123 → s.heap.get? b = some o → s'.heap.get? b = some o
  there : Tabs s'.heap
  old : ∀ h0, Tabs0 h0 → OldK h0 s.heap → OldK h0 s'.heap
  bare : AllBare s.gens → AllBare s'.gens
  os : s'.os = s.os
theorem KG.trans {a b c : Shared} (x : KG a b) (y : KG b c) : KG a c :=
  ⟨fun p o h1 h2 e => y.keep p o h1 h2 (x.keep p o h1 h2 e), y.there, fun h0 t o => y.old h0 t (x.old h0 t o), fun g => y.bare (x.bare g), y.os.trans x.os⟩
theorem KG.of_keeps {s s' : Shared} (T : Tabs s.heap) (k : Keeps s s') : KG s s' := by
  obtain ⟨h', tk, rfl, k⟩ := k
  exact ⟨fun b o _ _ e => k b o e, T.kf k, fun h0 _ x => x.step_keeps k, id, rfl⟩
theorem KG.kp {s s' : Shared} (T : Tabs s.heap) (x : KG s s') : Kp s.heap s'.heap := fun b o e ht => x.keep b o (by
    rintro rfl
    obtain ⟨o', e', t'⟩ := T.l.obj
    rw [e] at e'; cases e'; rw [ht] at t'; cases t') (by
    rintro rfl
    obtain ⟨o', e', t'⟩ := T.s.obj
    rw [e] at e'; cases e'; rw [ht] at t'; cases t') e

theorem PileAt.kp {h h' : Heap} {p : Addr} {st : Int} {ps : List PyData} (k : Kp h h') (P : PileAt h p st ps) : PileAt h' p st ps := by
  obtain ⟨o, items, n, dx, u, ho, hc, hdd, hsl, hdx, hne, hns, r⟩ := P
  refine ⟨o, items, n, dx, u, k _ _ ho (by simp [tabby, hdd]), hc, hdd, hsl, hdx, hne, ?_, rdsAll_kp k r⟩
  refine hns.at fun o e => k _ _ e ?_
  obtain ⟨o', es, ep, ho', hd', _⟩ := hns
  rw [e] at ho'; cases ho'
  simp [tabby, hd']

section
variable {w : World} {A : Around} {E : Value → Shared → Prop} {s : Shared}
theorem genCode {M : Model} {env : Env} {c P : Addr} {pos : Pos} {q : Str} {scope : Scope} {Q : Value → Shared → Prop} (hc : env.code = .ref c) (T : Tab s.heap c P) (hP : P ≠ cStatics)
    (hQ : ∀ code h' tk, Heap.ExtBut P s.heap h' → Tab h' c P → (∀ h0, Tab0 h0 c P → OldK h0 s.heap → OldK h0 h') → Q code { s with heap := h', toks := tk }) :
    wpAny M A (genexprCode env pos q scope) Q E s := by
  obtain ⟨ps, hok, htab⟩ := T
  cases hf : codeAmong pos ps.toList with
  | some cv => exact wpAny_genexprCode_hit hc hok hf (hQ cv s.heap s.toks (Heap.ExtBut.refl _ _) ⟨ps, hok, htab⟩ fun _ _ x => x)
  | none =>
    refine wpAny_genexprCodeX hc hok htab hf fun c' h' tk hx _ _ hok' _ htab' _ => hQ _ h' tk hx ⟨_, hok', htab'⟩ fun h0 t x => ?_
    obtain ⟨ps0, t⟩ := t
    exact x.step_table t htab htab' hx hP
end
end Mine
set_option maxRecDepth 100000
set_option linter.all false
namespace Mine
open PySem PySem.Spec PySem.Calls PyProof.Rows PySem.W
noncomputable abbrev prD (q : Str × Str) : PyData := .tuple [.str q.1, .str q.2]
section
variable {w : World} {A : Around} {E : Value → Shared → Prop} {s : Shared}
/- iter(pile) -/
theorem iterP {p : Addr} {st : Int} {ps : List PyData} {Q : Value → Shared → Prop} (C : AccAt s.heap) (P : PileAt s.heap p st ps)
    (hq : Q (.ref s.heap.objs.size) { s with heap := s.heap.push { cls := .type "list_iterator", data := .fields #[.ref p, .int 0 0] } }) : wpAny (model thePr w) A (pyIter (.ref p)) Q E s := by
  have S := PySem.slot_list_iter
  obtain ⟨o, items, n, dx, u, ho, hc, _⟩ := id P
  obtain ⟨nm, q, sn, sub, ab, col, dd, k0, k1, k2, k3, k5, e⟩ := C.cls
  have call : ∀ Q : Value → Shared → Prop, Q (.ref s.heap.objs.size) { s with heap := s.heap.push { cls := .type "list_iterator", data := .fields #[.ref p, .int 0 0] } } →
      wpAny (model thePr w) A (PySem.call (.builtin "list.__iter__") [.ref p]) Q E s := fun Q hq => by
    have hchk := fun (A : Around) (Q : Unit → Shared → Prop) (E : Value → Shared → Prop) (hq : Q () s) => (show wpAny (model thePr w) A (checkBuiltinCall "list.__iter__" ⟨[.ref p], []⟩) Q E s from by obtain ⟨hp, g, dr, tk, os⟩ := s; exact check_liter (vv := .none) e ho hc hq)
    refine wpAny_call (codeAny_call_builtin S.plain PySem.entry_list_iter (hchk _ _ _ ?_))
    show wpAny _ _ (do ret (← newFields "list_iterator" [.ref p, rawInt 0])) _ _ s
    exact wpAny_bind (wpAny_newObj_type (wpAny_pure hq))
  unfold pyIter
  refine wpAny_bind (specP C P (by decide) S.lookup ?_)
  show wpAny _ A (callSpecialIfBoundUnlessNone? (.ref p) (Str.ofString "__iter__") _ >>= _) Q E s
  refine wpAny_bind ?_
  simp only [callSpecialIfBoundUnlessNone?, bindSpecialIfBound?]
  refine wpAny_holding (wpAny_bind (wpAny_bind (specP C P (by decide) S.lookup ?_)))
  simp only [S.bind]
  refine wpAny_bind (wpAny_askSetting (wpAny_ite ?_))
  have fin : ∀ (refuse : Sem Value) (Q : Option Value → Shared → Prop), Q (some (.ref s.heap.objs.size)) { s with heap := s.heap.push { cls := .type "list_iterator", data := .fields #[.ref p, .int 0 0] } } →
      wpAny (model thePr w) A (if (Value.builtin "list.__iter__" == Value.none) = true then (refuse >>= fun v => pure (some v)) else (PySem.call (.builtin "list.__iter__") [.ref p] >>= fun v => pure (some v))) Q E s := fun refuse Q hq => by
    rw [if_neg (by decide)]
    exact wpAny_bind (call _ (wpAny_pure hq))
  have tail : ∀ v, v = some (Value.ref s.heap.objs.size) → wpAny (model thePr w) A (match v with
      | some it => (do match ← specialOf it "__next__" with
        | none => rule "iter.non-iterator"; raiseError "TypeError" s!"iter() returned non-iterator of type '{← PySem.typeNameOf it}'"
        | some _ => pure it : Sem Value)
      | none => pure .none) Q E { s with heap := s.heap.push { cls := .type "list_iterator", data := .fields #[.ref p, .int 0 0] } } := by
    rintro v rfl
    exact wpAny_bind (wpAny_specialOf (s := { s with heap := s.heap.push { cls := .type "list_iterator", data := .fields #[.ref p, .int 0 0] } }) (T := "list_iterator") ⟨_, Heap.get?_push_size _ rfl, rfl⟩ slot_listiter_next.lookup (wpAny_pure hq))
  split
  · exact wpAny_bind (wpAny_pure (wpAny_pure (fin _ _ (tail _ rfl))))
  · exact wpAny_tryCatch (wpAny_bind (wpAny_pure (wpAny_pure (fin _ _ (tail _ rfl)))))

theorem nextP_item {it l : Addr} {i : Nat} {items : Array Value} {x : Value} {ol : Obj} {nl : Nat} {Q : Option Value → Shared → Prop} (hit : s.heap.IsListIter it l i)
    (hol : s.heap.get? l = some ol) (hdl : ol.data = .seq items nl) (hx : items[i]? = some x)
    (hQ : ∀ h', h'.IsListIter it l (i + 1) → Heap.SameBut it s.heap h' → Q (some x) { s with heap := h' }) :
    wpAny (model thePr w) A (pyNext (.ref it)) Q E s := by
  obtain ⟨o, ho, hc, hd⟩ := id hit
  unfold pyNext
  refine wpAny_bind (wpAny_attempt (wpAny_callSpecial?_slot (name := Str.ofString "__next__") hit.typeIs slot_listiter_next
    (wpAny_call_entry slot_listiter_next hit.typeIs entry_listiter_next ?_ (args_listiter_next _))))
  show wpAny _ _ (field (.ref it) 0 >>= _) _ _ s
  refine wpAny_bind (wpAny_field ho hd (x := .ref l) rfl ?_)
  show wpAny _ _ (if (Value.ref l == Value.none) = true then _ else _) _ _ s
  rw [if_neg (show ¬ ((Value.ref l == Value.none) = true) from Bool.false_ne_true)]
  show wpAny _ _ (field (.ref it) 1 >>= _) _ _ s
  refine wpAny_bind (wpAny_field ho hd (x := .int i 0) rfl ?_)
  show wpAny _ _ (seqItems? (.ref l) >>= _) _ _ s
  refine wpAny_bind (wpAny_seqItems hol hdl ?_)
  simp only [Int.toNat_natCast, hx]
  refine wpAny_bind (wpAny_setField ho hd (by simp) (wpAny_pure ⟨x, rfl, wpAny_pure (hQ _ ?_ (Heap.SameBut.update ..))⟩))
  exact ⟨_, Heap.get?_update_self _ ho (Obj.isFreed_of_fields (Obj.data_mapFields hd _)), (Obj.cls_mapFields ..).trans hc, by
    rw [Obj.data_mapFields hd]; simp [rawInt]⟩

theorem nextP_end {it l : Addr} {i : Nat} {items : Array Value} {ol : Obj} {nl : Nat} {Q : Option Value → Shared → Prop} (hh : A.handled = none) (hit : s.heap.IsListIter it l i)
    (hol : s.heap.get? l = some ol) (hdl : ol.data = .seq items nl) (hx : items[i]? = none)
    (hQ : ∀ h', Heap.ExtBut it s.heap h' → Q none { s with heap := h' }) : wpAny (model thePr w) A (pyNext (.ref it)) Q E s := by
  obtain ⟨o, ho, hc, hd⟩ := id hit
  have hT : ∀ h : Heap, True := fun _ => trivial
  unfold pyNext
  refine wpAny_bind (wpAny_attempt (wpAny_callSpecial?_slot (name := Str.ofString "__next__") hit.typeIs slot_listiter_next
    (wpAny_call_entry slot_listiter_next hit.typeIs entry_listiter_next ?_ (args_listiter_next _))))
  show wpAny _ _ (field (.ref it) 0 >>= _) _ _ s
  refine wpAny_bind (wpAny_field ho hd (x := .ref l) rfl ?_)
  show wpAny _ _ (if (Value.ref l == Value.none) = true then _ else _) _ _ s
  rw [if_neg (show ¬ ((Value.ref l == Value.none) = true) from Bool.false_ne_true)]
  show wpAny _ _ (field (.ref it) 1 >>= _) _ _ s
  refine wpAny_bind (wpAny_field ho hd (x := .int i 0) rfl ?_)
  show wpAny _ _ (seqItems? (.ref l) >>= _) _ _ s
  refine wpAny_bind (wpAny_seqItems hol hdl ?_)
  simp only [Int.toNat_natCast, hx]
  refine wpAny_bind (wpAny_rule (wpAny_bind (wpAny_setField ho hd (by simp) ?_)))
  show wpAny _ _ (newExc (.type "StopIteration") [] >>= _) _ _ _
  refine wpAny_bind ?_
  simp only [newExc, newTuple]
  refine wpAny_bind (wpAny_newObj_type ?_ (by size_fits))
  refine wpAny_bind (m := firstArgMember _ _) (wpAny_of_eq (a := Value.none) (by first | rfl | (simp only [firstArgMember]; rfl)) ?_)
  refine wpAny_newObj_type ?_ (by size_fits)
  simp only [raiseNew]
  refine wpAny_bind (wpAny_handled ?_)
  rw [show A.in1.handled = none from hh]
  refine wpAny_bind (wpAny_pure (wpAny_throw ?_))
  refine wpAny_bind (wpAny_isInstance (T := "StopIteration") (b := true) ⟨_, Heap.get?_push_size _ rfl, rfl⟩ isSubtype_stop ?_)
  refine wpAny_pure (hQ _ fun b o' hb e => ?_)
  exact Heap.get?_push_of_some _ (Heap.get?_push_of_some _ ((Heap.SameBut.update ..).extBut b o' hb e))

/- the walk over a pile -/
theorem walksP {hs : Heap} {I p : Addr} {o : Obj} {items : Array Value} {n : Nat} {ts : List (Str × Str)} (hh : A.handled = none) (hI : hs.objs.size ≤ I) (hp : hs.get? p = some o) (hd : o.data = .seq items n)
    (r : RdsAll hs items.toList (ts.map prD) []) :
    WalksU thePr w A I (I :: List.range hs.objs.size) [I] ts.length (fun j v => ∃ a b u u', ts[j]? = some (a, b) ∧ v = #[.str a u, .str b u'])
      (fun j h => h.IsListIter I p j ∧ Kp hs h) (fun j T h => (h.IsListIter I p (j + 1) ∧ Kp hs h) ∧ T < hs.objs.size) where
  sub := fun b hb => by simp at hb; simp [hb]
  frame := fun j h h' st hk => ⟨st.1.at fun o e => hk I (by simp) o e, fun b o e ht => hk b (by simp; exact .inr (Heap.lt_size e)) o (st.2 b o e ht)⟩
  item := fun j s Q E hj st hQ => by
    obtain ⟨v, bs, hv, rv⟩ := readsAll_get r (i := j) (d := prD ts[j]) (by simp [hj])
    revert hv
    refine rdsT2 rv fun T tn _ _ _ _ hT r1 r2 => ?_
    revert hT
    refine rdsS r1 fun u => rdsS r2 fun u' hT hv => ?_
    have hTl : T < hs.objs.size := Heap.lt_size hT
    refine nextP_item st.1 (st.2 _ _ hp (by simp [tabby, hd])) hd (x := .ref T) (by simpa using hv) fun h' hit' hs' => ?_
    have hk : Kp hs h' := fun b o e ht => hs'.extBut b o (Nat.ne_of_lt (Nat.lt_of_lt_of_le (Heap.lt_size e) hI)) (st.2 b o e ht)
    exact hQ T _ h' s.toks ⟨ts[j].1, ts[j].2, u, u', by simp [hj], rfl⟩ ⟨_, hk _ _ hT rfl, rfl, _, rfl⟩ ⟨⟨hit', hk⟩, hTl⟩ fun b o hb e => hs'.extBut b o (fun h => hb (by simp [h])) e
  go := fun _ _ _ _ _ s Q _ hm hQ => wpAny_letOwnedTupleGo_listiter hm.1.1 (hQ s.heap hm.1 fun _ _ _ e => e)
  apart := fun j T _ hm hmem => by
    simp at hmem
    subst hmem
    exact Nat.lt_irrefl _ (Nat.lt_of_lt_of_le hm.2 hI)
  done := fun s Q E st hQ => by
    have hsz : items.size = ts.length := by have := readsAll_length r; rw [Array.length_toList, List.length_map] at this; exact this
    exact nextP_end hh st.1 (st.2 _ _ hp (by simp [tabby, hd])) hd (by simp [hsz]) fun h' he' => hQ h' s.toks fun b o hb e => he' b o (fun h => hb (by simp [h])) e
  self := fun _ _ _ _ st hQ => wpAny_pyIter_listiter st.1 hQ
end
end Mine
set_option maxRecDepth 100000
set_option linter.all false
namespace Mine
open PySem PySem.Spec PySem.Calls PyProof.Rows PySem.W
theorem Tab.at {h h' : Heap} {c P : Addr} (kc : ∀ o, h.get? c = some o → h'.get? c = some o) (kP : ∀ o, h.get? P = some o → h'.get? P = some o) (x : Tab h c P) : Tab h' c P := by
  obtain ⟨ps, ⟨o, vs, file, tf, flags, tg, inF, text, tt, op, a, r1, r2, r3, r4, r5, r6, b, r⟩, ⟨o', vs', e, q⟩, t⟩ := x
  exact ⟨ps, ⟨o, vs, file, tf, flags, tg, inF, text, tt, op, kc _ a, r1, r2, r3, r4, r5, r6, kP _ b, r⟩, ⟨o', vs', kc _ e, q⟩, kP _ t⟩
theorem OldK.step_dom {h₀ h h' : Heap} (K : OldK h₀ h) (hk : ∀ b o o0, h₀.get? b = some o0 → h.get? b = some o → h'.get? b = some o) : OldK h₀ h' :=
  ⟨fun b o e => by
    rcases K.old b o e with x | ⟨t, hc, vs, more, hv, x⟩ | ⟨rfl, hc, ⟨o', es, n, ho', r⟩, z⟩
    · exact .inl (hk _ _ _ e x)
    · exact .inr (.inl ⟨t, hc, vs, more, hv, hk _ _ _ e x⟩)
    · exact .inr (.inr ⟨rfl, hc, ⟨o', es, n, hk _ _ _ e ho', r⟩, fun key => by rw [OldK.staticOf_congr ((hk _ _ _ e ho').trans ho'.symm) key]; exact z key⟩),
   fun b o e => let ⟨o', ho'⟩ := K.there b o e; ⟨o', hk _ _ _ e ho'⟩⟩
theorem args_sum2 (a b : Value) : argsOk "sum" ⟨[a, b], []⟩ := by unfold argsOk; kernel_rfl
noncomputable def shiftV (st : Int) (val : Nat → Int) : Nat → Int | 0 => st | j + 1 => val j
theorem preSum_shift (st : Int) (val : Nat → Int) : ∀ n, preSum (shiftV st val) (n + 1) = st + preSum val n
  | 0 => by simp [preSum, shiftV]
  | n + 1 => by
    have := preSum_shift st val n
    show preSum (shiftV st val) (n + 1) + val n = st + (preSum val n + val n)
    omega
section
variable {w : World} {A : Around} {E : Value → Shared → Prop} {s : Shared}
/- a walk with a first item that is past -/
theorem WalksS.shift {prog : Program} {I : Addr} {fp wr : List Addr} {G : Array GenState → Array GenState → Prop} {n : Nat} {P : Nat → Value → Prop} {St : Nat → Shared → Prop} (W : WalksS prog w A I fp wr G n P St) :
    WalksS prog w A I fp wr G (n + 1) (fun i v => ∃ j, i = j + 1 ∧ P j v) (fun i s => ∃ j, i = j + 1 ∧ St j s) where
  sub := W.sub
  grefl := W.grefl
  gtrans := W.gtrans
  frame := fun i s h' tk st ht hk => by obtain ⟨j, rfl, st⟩ := st; exact ⟨j, rfl, W.frame j s h' tk st ht hk⟩
  item := fun i s Q E hi st hQ => by
    obtain ⟨j, rfl, st⟩ := st
    exact W.item j s Q E (by omega) st fun v s' hP st' hm => hQ v s' ⟨j, rfl, hP⟩ ⟨j + 1, rfl, st'⟩ hm
  done := fun s Q E st hQ => by
    obtain ⟨j, h, st⟩ := st
    have : j = n := by omega
    subst this
    exact W.done s Q E st hQ
  self := fun i s Q E st hQ => by obtain ⟨j, rfl, st⟩ := st; exact W.self j s Q E st hQ
theorem call_sum2 {x : Value} {st0 : Int} {u : Tok} {Q : Value → Shared → Prop}
    (h : wpAny (model thePr w) A.in1 (pyIter x) (fun it s₂ => ∃ I fp wr G n P St val, it = .ref I ∧ WalksS thePr w A.in1 I fp wr G n P St ∧ St 0 s₂ ∧ (∀ b ∈ fp, b < s₂.heap.objs.size) ∧
      (∀ i v, P i v → ∃ t, v = .int (val i) t) ∧
      ∀ s' t', Moved wr G s₂ s' → Q (.int (st0 + preSum val n) t') s') E s) :
    wpAny (model thePr w) A (PySem.call (.builtin "sum") [x, .int st0 u]) Q E s := by
  refine call_function_tree PySem.F.kind_sum PySem.F.plain_sum PySem.F.entry_sum (args_sum2 _ _) ?_
  unfold Builtin.«sum»
  simp only [List.length_cons, List.length_nil]
  rw [if_neg (by decide)]
  refine wpAny_bind (wpAny_of_eq (show Builtin.Builtins.bindParams "sum" ["start"] 0 ⟨[.int st0 u], []⟩ = pure [some (.int st0 u)] from rfl) ?_)
  refine wpAny_bind (wpAny_mono h (fun it s₂ h₂ => ?_) fun _ _ e => e)
  obtain ⟨I, fp, wr, G, n, P, St, val, rfl, W, hst, hfp, hval, hQ⟩ := h₂
  have fin : ∀ (tk tk2 : Nat) (stage : Int), (stage = 0 ∨ stage = 2) → s₂.toks ≤ tk → wpAny (model thePr w) A.in1 (do
      for (ty, what, hint) in [("str", "strings", "''"), ("bytes", "bytes", "b''"), ("bytearray", "bytearray", "b''")] do
        if ← isInstance (.int st0 tk2) (.type ty) then
          rule "sum.start-refused"; raiseError "TypeError" s!"sum() can't sum {what} [use {hint}.join(seq) instead]"
      again (.builtin "sum.loop" ⟨[.ref I, ← newList [.int st0 tk2], rawInt stage, rawInt 0], []⟩) : Sem Fin) (fun fin s' => match fin with
      | .done f => (match (Except.ok f : Result) with | .ok (.ret v) => Q v s' | .ok _ => False | .error e => E e s')
      | .again c' => c'.quiet = true ∧ codeAny (model thePr w) A c' (fun r s' => match r with | .ok (.ret v) => Q v s' | .ok _ => False | .error e => E e s') s') E { s₂ with toks := tk } := by
    intro tk tk2 stage hstg htk
    simp only [List.forIn_cons, List.forIn_nil]
    refine wpAny_bind (wpAny_bind (wpAny_bind (wpAny_isInstance (T := "int") (b := false) (typeIs_int _ _ _) PySem.sub_int_str ?_)))
    simp only [Bool.false_eq_true, if_false]
    refine wpAny_pure (wpAny_bind (wpAny_bind (wpAny_isInstance (T := "int") (b := false) (typeIs_int _ _ _) PySem.sub_int_bytes ?_)))
    simp only [Bool.false_eq_true, if_false]
    refine wpAny_pure (wpAny_bind (wpAny_bind (wpAny_isInstance (T := "int") (b := false) (typeIs_int _ _ _) PySem.sub_int_bytearray ?_)))
    simp only [Bool.false_eq_true, if_false]
    refine wpAny_pure (wpAny_pure ?_)
    refine wpAny_bind (wpAny_newObj_type ?_)
    have hSf : s₂.heap.objs.size ∉ fp := fun hm => Nat.lt_irrefl _ (hfp _ hm)
    refine wpAny_pure ⟨plainId_quiet PySem.F.plain_sum_loop _, codeAny_sum_loopAnyS (WalksS.shift W) (shiftV st0 val) (fun i v hv => ?_) s₂.heap.objs.size hSf n 1 _ tk2 0 stage hstg (by omega) (by omega)
      ⟨0, rfl, W.frame 0 s₂ _ _ hst htk fun b _ o e => Heap.get?_push_of_some _ e⟩ ?_ fun s' t' hm => ?_⟩
    · obtain ⟨j, rfl, hP⟩ := hv
      exact hval j v hP
    · have : preSum (shiftV st0 val) 1 = st0 := by simp [preSum, shiftV]
      rw [this]
      exact Heap.get?_push_size _ rfl
    · rw [preSum_shift]
      exact hQ s' t' (hm.drop_new htk)
  dsimp only
  split
  · refine wpAny_bind (wpAny_rule (wpAny_bind (wpAny_mkInt (wpAny_bind (wpAny_pure ?_)))))
    exact fin (s₂.toks + 1) s₂.toks 0 (.inl rfl) (Nat.le_succ _)
  · refine wpAny_bind (wpAny_pure ?_)
    exact fin s₂.toks u 2 (.inr rfl) (Nat.le_refl _)
end
end Mine
set_option maxRecDepth 100000
set_option linter.all false
namespace Mine
open PySem PySem.Spec PySem.Calls PyProof.Rows PySem.W
/- the module's own table of builtins -/
noncomputable def BmAt (h : Heap) : Prop := ∃ mg bm o, h.Ns mainGlobals mg ∧ mg "__builtins__" = some (.ref bm) ∧ bm ≠ builtinsNs ∧ h.get? bm = some o ∧ o.cls = .type "module" ∧ o.dict = some builtinsNs ∧ o.data = .plain
theorem BmAt.kp {h h' : Heap} (k : Kp h h') (x : BmAt h) : BmAt h' := by
  obtain ⟨mg, bm, o, n, e, hne, ho, hc, hd, hp⟩ := x
  exact ⟨mg, bm, o, ns_kp k n, e, hne, k _ _ ho (by simp [tabby, hp]), hc, hd, hp⟩
theorem BmAt.go {M : Model} {A : Around} {E : Value → Shared → Prop} {s : Shared} {r : Addr} {Q : Addr → Shared → Prop} (x : BmAt s.heap) (h : Q builtinsNs s) : wpAny M A (builtinsFor mainGlobals r) Q E s := by
  obtain ⟨mg, bm, o, n, e, hne, ho, hc, hd, hp⟩ := x
  exact wpAny_builtinsFor n e hne ho hc hd hp h
section
variable {w : World} {A : Around} {env : Env} {G : Heap → Prop}
theorem EV.fb {L : Addr} {bs vs} {x : Str} {pos : Pos} {d : PyData} (hG : ∀ h, G h → FB L bs vs h) (e : bs.lookup x = some d) (hL : env.locals = L) (hk : env.scope.kind = .function) (hx : env.kindOf x = some .local) (hd : (x == ("__debug__" : Str)) = false) : EV w A env G false (.Name x pos) d := by
  intro s E g
  obtain ⟨m, n, r, _⟩ := hG _ g
  obtain ⟨v, as, e1, e2⟩ := r x d e
  subst hL
  exact wpAny_Name (wpAny_loadName_local hk hx n e1 ⟨⟨as, e2, ff⟩, keeps_refl _⟩) hd
theorem NV.fb {L : Addr} {bs vs} {x : Str} {v : Value} (hG : ∀ h, G h → FB L bs vs h) (e : vs.lookup x = some v) (hL : env.locals = L) (hk : env.scope.kind = .function) (hx : env.kindOf x = some .local) (hd : (x == ("__debug__" : Str)) = false) : NV env G x v := by
  intro M A pos s E Q g q
  obtain ⟨m, n, _, r⟩ := hG _ g
  subst hL
  exact wpAny_Name (wpAny_loadName_local hk hx n (r _ _ e) q) hd
end
theorem passing_all (n : Nat) : passing (fun _ => true) n 0 = List.range n := by
  unfold passing; rw [List.drop_zero]; exact List.filter_eq_self.mpr fun _ _ => rfl
noncomputable def lenOf (ts : List (Str × Str)) : Int := (ts.map fun q => ((q.1.length : Int) + q.2.length)).sum
theorem preSum_len (ts : List (Str × Str)) : ∀ n, n ≤ ts.length → preSum (fun i => (((ts.getD i default).1.length : Int) + (ts.getD i default).2.length)) n = lenOf (ts.take n)
  | 0, _ => by simp [preSum, lenOf]
  | n + 1, h => by
    show preSum _ n + _ = _
    rw [preSum_len ts n (by omega)]
    have e : ts.take (n + 1) = ts.take n ++ [ts[n]] := by rw [List.take_succ]; simp [show n < ts.length by omega]
    rw [e]
    simp only [lenOf, List.map_append, List.sum_append, List.map_cons, List.map_nil, List.sum_cons, List.sum_nil]
    simp [List.getD_eq_getElem?_getD, show n < ts.length by omega]
section
variable {w : World} {A : Around} {E : Value → Shared → Prop} {s : Shared} {Q : Value → Shared → Prop}
theorem tab_but {h h' : Heap} {c P : Addr} (T : Tabs h) (hcP : c = 120 ∧ P = 116 ∨ c = 127 ∧ P = 123) (k : Heap.ExtBut P h h') (x : Tab h' c P) : Tabs h' := by
  rcases hcP with ⟨rfl, rfl⟩ | ⟨rfl, rfl⟩
  · exact ⟨x, T.s.but k (by decide) (by decide)⟩
  · exact ⟨T.l.but k (by decide) (by decide), x⟩
theorem tabs_of {h : Heap} {c P : Addr} (T : Tabs h) (hcP : c = 120 ∧ P = 116 ∨ c = 127 ∧ P = 123) : Tab h c P := by
  rcases hcP with ⟨rfl, rfl⟩ | ⟨rfl, rfl⟩
  · exact T.l
  · exact T.s
theorem tabs0_of {h : Heap} {c P : Addr} (T : Tabs0 h) (hcP : c = 120 ∧ P = 116 ∨ c = 127 ∧ P = 123) : Tab0 h c P := by
  rcases hcP with ⟨rfl, rfl⟩ | ⟨rfl, rfl⟩
  · exact T.l
  · exact T.s
theorem kp_ext {h h' : Heap} {P : Addr} {o : Obj} (k : Heap.ExtBut P h h') (ho : h.get? P = some o) (ht : tabby o = true) : Kp h h' := fun b o' e t => k b o' (by rintro rfl; rw [ho] at e; cases e; rw [ht] at t; cases t) e
/- elt for fws, part in self: the walk -/
theorem genP {env : Env} {p c Pt L : Addr} {st : Int} {ts : List (Str × Str)} {elt : Expr} {pa pb pt pos px : Pos} {kt : Nat} {scope : Scope} {F : Str × Str → Value → Prop} (hA : Room 1 A) (hcP : c = 120 ∧ Pt = 116 ∨ c = 127 ∧ Pt = 123) (hcode : env.code = .ref c) (hgl : env.globals = mainGlobals)
    (hco : scope.isCoroutine = false) (hclos : closureFor scope env = pure []) (hcell : ∀ y ∈ scope.names, y.2 ≠ .cell) (h0 : scope.names.lookup (".0" : Str) = some NameKind.local)
    (hxa : scope.names.lookup ("fws" : Str) = some .local) (hxb : scope.names.lookup ("part" : Str) = some .local) (hkind : scope.kind = .function) (hs : ∀ x, genFold (.Name "self" px) env x = pure x)
    (B : Base s.heap) (C : AccAt s.heap) (T : Tabs s.heap) (Bm : BmAt s.heap) (P : PileAt s.heap p st (ts.map prD)) (hn : NV env (fun h => FB L [] [("self", .ref p)] h) "self" (.ref p)) (g : FB L [] [("self", .ref p)] s.heap)
    (helt : ∀ (A' : Around) CC code a b, A'.handled = none → (a, b) ∈ ts → ∀ (s₂ : Shared) E', Base s₂.heap → FB CC [("fws", .str a), ("part", .str b)] [] s₂.heap →
      wpAny (model thePr w) A' (eval elt (genEnv scope [] CC code builtinsNs env)) (fun y s₃ => F (a, b) y ∧ Keeps s₂ s₃) E' s₂)
    (hQ : ∀ a s₅ fp wr gi St, WalksS thePr w A.in4 a fp wr (GenOnlyQ gi) ts.length (fun j y => ∃ q, ts[j]? = some q ∧ F q y) St → St 0 s₅ → (∀ b ∈ fp, b < s₅.heap.objs.size) → a ∈ fp → (∀ b ∈ wr, s.heap.get? b = none) → (∀ i s, St i s → s.TypeIs (.ref a) "generator") →
      KG s s₅ → Q (.ref a) s₅) :
    wpAny (model thePr w) A (eval (.GeneratorExp elt [⟨.Tuple [.Name "fws" pa, .Name "part" pb] kt pt, .Name "self" px, [], 0⟩] scope pos) env) Q E s := by
  refine wpAny_GeneratorExp_walksQT hA.handled hco hclos hcell h0 hxa hxb (by decide) hkind hA.here ?_ hs
  refine hn _ _ _ _ _ _ g ?_
  refine iterP C P ?_
  have kI : Kf s.heap (s.heap.push { cls := .type "list_iterator", data := .fields #[.ref p, .int 0 0] }) := fun b o e => Heap.get?_push_of_some _ e
  refine ⟨(B.kp (.of_keep kI)).lim, ?_⟩
  have hPc : Pt ≠ cStatics := by rcases hcP with ⟨_, rfl⟩ | ⟨_, rfl⟩ <;> decide
  refine genCode hcode (tabs_of (T.kf kI) hcP) hPc fun code h₂ tk₂ hx₂ T₂ old₂ => ?_
  dsimp only at hx₂ old₂ ⊢
  obtain ⟨oP, hoP, htP⟩ := (tabs_of T hcP).obj
  have kp₂ : Kp (s.heap.push { cls := .type "list_iterator", data := .fields #[.ref p, .int 0 0] }) h₂ := kp_ext hx₂ (kI _ _ hoP) htP
  have kps₂ : Kp s.heap h₂ := (Kp.of_keep kI).trans kp₂
  have TT₂ : Tabs h₂ := tab_but (T.kf kI) hcP hx₂ T₂
  have hPI : Pt ≠ s.heap.objs.size := Nat.ne_of_lt (Heap.lt_size hoP)
  rw [hgl]
  refine (Bm.kp kps₂).go ?_
  obtain ⟨o, items, nn, dx, u, ho, hc, hd, _, _, _, _, r⟩ := id P
  have hIt : h₂.IsListIter s.heap.objs.size p 0 := ⟨_, hx₂ _ _ (Ne.symm hPI) (Heap.get?_push_size _ rfl), rfl, rfl⟩
  have hIlt : s.heap.objs.size < h₂.objs.size := by obtain ⟨_, e, _⟩ := hIt; exact Heap.lt_size e
  refine ⟨s.heap.objs.size, s.heap.objs.size :: List.range s.heap.objs.size, [s.heap.objs.size], ts.length, _, _, _, fun _ => true, fun i y => ∃ q, ts[i]? = some q ∧ F q y, rfl, fun A' hA' => walksP (hs := s.heap) hA' (Nat.le_refl _) ho hd r, ?_, ⟨hIt, kps₂⟩, ?_, (B.kp kps₂).lim, ?_, ?_, ?_⟩
  · rintro i vals ⟨a, b, u, u', _, rfl⟩
    exact ⟨_, _, rfl⟩
  · intro b hb
    rcases List.mem_cons.mp hb with rfl | hb
    · exact hIlt
    · have := List.mem_range.mp hb
      exact Nat.lt_trans this hIlt
  · intro hm
    simp at hm
    obtain ⟨_, n, _⟩ := B.lim
    have := n.lt
    rw [hm] at this
    exact Nat.lt_irrefl _ this
  · intro href hk
    have kpr : ∀ s₂ : Shared, (∀ b ∈ List.range h₂.objs.size, b ∉ [s.heap.objs.size] → ∀ o, href.get? b = some o → s₂.heap.get? b = some o) → Kp s.heap s₂.heap := fun s₂ hh b o e t => by
      have e2 := kps₂ b o e t
      have hlt := Heap.lt_size e
      exact hh b (List.mem_range.mpr (Heap.lt_size e2)) (by simpa using Nat.ne_of_lt hlt) o (hk _ _ e2)
    refine ⟨fun A' E' i va vb s₂ m₂ _ _ _ _ _ _ => wpAny_tests_nil ⟨rfl, keeps_refl _⟩, fun A' E' i va vb s₂ m₂ hA' hP _ hn₂ ha hb hh => ?_⟩
    obtain ⟨a, b, u, u', hts, hv⟩ := hP
    obtain ⟨rfl, rfl⟩ : va = .str a u ∧ vb = .str b u' := by simpa using hv
    refine wpAny_mono (helt A' h₂.objs.size code a b hA' (List.mem_of_getElem? hts) s₂ E' (B.kp (kpr s₂ hh)) ⟨m₂, hn₂, fun x d e => ?_, fun x v e => by simp at e⟩) (fun y s₃ h₃ => ⟨⟨_, hts, h₃.1⟩, h₃.2⟩) fun _ _ x => x
    have := PySem.mem_of_lookup e
    simp at this
    rcases this with ⟨rfl, rfl⟩ | ⟨rfl, rfl⟩
    · exact ⟨_, _, ha, .str _ _⟩
    · exact ⟨_, _, hb, .str _ _⟩
  · intro a h₅ tk gs hgs hlt hsz5 k5 W GA
    have W' := W
    rw [passing_all, List.length_range] at W'
    refine hQ a _ _ _ _ _ ⟨W'.sub, W'.grefl, W'.gtrans, W'.frame, fun i s Q E hi st hQ => W'.item i s Q E hi st fun v s' hP st' hm => hQ v s' ?_ st' hm, W'.done, W'.self⟩ GA ?_ (by simp) ?_ (fun i s st => ?_) ?_
    · obtain ⟨i', hi', q, hq, hF⟩ := hP
      have : i' = i := by
        rw [List.getElem?_range hi] at hi'
        exact (Option.some.inj hi').symm
      subst this
      exact ⟨q, hq, hF⟩
    · intro b hb
      replace hlt : h₂.objs.size < a := hlt
      replace hsz5 : h₅.objs.size = a + 1 := hsz5
      replace hb : b ∈ a :: h₂.objs.size :: List.range h₂.objs.size := hb
      show b < h₅.objs.size
      rw [hsz5]
      rcases List.mem_cons.mp hb with h | hb
      · rw [h]; exact Nat.lt_succ_self _
      · rcases List.mem_cons.mp hb with h | hb
        · rw [h]; exact Nat.lt_succ_of_lt hlt
        · exact Nat.lt_succ_of_lt (Nat.lt_trans (List.mem_range.mp hb) hlt)
    · intro b hb
      simp at hb
      rcases hb with rfl | rfl
      · exact fresh_ge (Nat.le_of_lt hIlt)
      · exact fresh_size _
    · obtain ⟨o, nm, qn, ho, hc, _⟩ := st.1
      exact ⟨o, ho, hc⟩
    · refine ⟨fun b o h1 h2 e => k5 _ _ (hx₂ _ _ (by rcases hcP with ⟨_, rfl⟩ | ⟨_, rfl⟩ <;> assumption) (kI _ _ e)), TT₂.kf k5, fun h0 t x => (old₂ h0 (tabs0_of t hcP) (x.step_keeps kI)).step_keeps k5, fun hb => hb.push hgs, rfl⟩
end
end Mine
set_option maxRecDepth 100000
set_option linter.all false
namespace Mine
open PySem PySem.Spec PySem.Calls PyProof.Rows PySem.W
theorem kg_moved {s s₅ s' : Shared} {wr : List Addr} {gi : Nat} (T : Tabs s.heap) (k : KG s s₅) (hw : ∀ b ∈ wr, s.heap.get? b = none) {s₆ : Shared} (k6 : Keeps s₅ s₆) (hm : Moved wr (GenOnlyQ gi) s₆ s') : KG s s' := by
  obtain ⟨h₆, t₆, rfl, k6⟩ := k6
  have keep : ∀ b o o0, s.heap.get? b = some o0 → s₅.heap.get? b = some o → s'.heap.get? b = some o := fun b o o0 e0 e => hm.heap b o (fun hb => by rw [hw b hb] at e0; cases e0) (k6 _ _ e)
  have at' : ∀ c P, Tab s.heap c P → Tab s₅.heap c P → Tab s'.heap c P := fun c P t0 t => by
    obtain ⟨o1, e1, _⟩ := t0.objc
    obtain ⟨o2, e2, _⟩ := t0.obj
    exact t.at (fun o e => keep _ _ _ e1 e) (fun o e => keep _ _ _ e2 e)
  refine ⟨fun b o h1 h2 e => keep b o o e (k.keep b o h1 h2 e), ⟨at' _ _ T.l k.there.l, at' _ _ T.s k.there.s⟩, fun h0 t x => ?_, fun hb => (k.bare hb).moved hm.gens, hm.os.trans k.os⟩
  refine Mine.OldK.step_dom (k.old h0 t x) fun b o o0 e0 e => ?_
  obtain ⟨o1, e1⟩ := x.there b o0 e0
  exact keep b o o1 e1 e
section
variable {w : World} {A : Around} {E : Value → Shared → Prop} {s : Shared} {Q : Value → Shared → Prop}
theorem len_elt {env : Env} {A' : Around} {L : Addr} {a b : Str} {p1 p2 p3 p4 p5 p6 p7 : Pos} (hA' : A'.handled = none) (hL : env.locals = L) (hk : env.scope.kind = .function) (hg : env.globals = mainGlobals) (hb : env.builtins = builtinsNs) (h1 : env.kindOf "fws" = some .local) (h2 : env.kindOf "part" = some .local) (h3 : env.kindOf "len" = some .globalImplicit)
    (ha : a.length ≤ 1000 ∧ b.length ≤ 1000)
    (hs1 : starEach [.Name "fws" p2] env = (false, eval (.Name "fws" p2) env) :: starEach [] env) (hs2 : starEach [.Name "part" p5] env = (false, eval (.Name "part" p5) env) :: starEach [] env) :
    EV w A' env (fun h => Base h ∧ FB L [("fws", .str a), ("part", .str b)] [] h) true (.BinOp (.Call (.Name "len" p1) [.Name "fws" p2] [] p3) .Add (.Call (.Name "len" p4) [.Name "part" p5] [] p6) p7) (.int (a.length + b.length)) := by
  have hm : Mono (fun h => Base h ∧ FB L [("fws", .str a), ("part", .str b)] [] h) := fun h h' k x => ⟨x.1.kp (.of_keep k), x.2.kp (.of_keep k)⟩
  exact EV.add hm (EV.lenS hm (NV.built (fun h g => g.1) rfl h3 hk hg hb rfl) (EV.fb (fun h g => g.2) rfl hL hk h1 rfl) (by omega) hs1)
    (EV.lenS hm (NV.built (fun h g => g.1) rfl h3 hk hg hb rfl) (EV.fb (fun h g => g.2) rfl hL hk h2 rfl) (by omega) hs2)
/- __len__ -/
theorem len_ok {p : Addr} {st : Int} {ts : List (Str × Str)} (hA : Room 2 A) (B : Base s.heap) (C : AccAt s.heap) (T : Tabs s.heap) (Bm : BmAt s.heap) (F : MAt s.heap 121 "__len__" "_Accumulator.__len__" (mSt 4) .none 120 [])
    (P : PileAt s.heap p st (ts.map prD)) (hl : ∀ q ∈ ts, q.1.length ≤ 1000 ∧ q.2.length ≤ 1000)
    (hQ : ∀ u s', KG s s' → Q (.int (st + lenOf ts) u) s') : wpAny (model thePr w) A (PySem.call (.ref 121) [.ref p]) Q E s := by
  refine callM (binds := [("self", .ref p)]) F B.lim hA.here (fun pm ct => .of_eq rfl) (by decide) (locs rfl) fun pm ct h₀ n k => ?_
  have hA' := hA.deeper (callEnv (fdM "__len__" "_Accumulator.__len__" (mSt 4) .none pm ct 120 []) s.heap.objs.size 121)
  have g : GF s.heap s.heap.objs.size [] [("self", .ref p)] h₀ := GF.start n k (fun q hq => by simp at hq) (by intro q hq; simp at hq; subst hq; rfl)
  have B₀ := B.kp (.of_keep k)
  have C₀ := C.kp (.of_keep k)
  have P₀ := P.kf k
  have T₀ := T.kf k
  refine wpAny_execs_cons (wpAny_Return_some ?_)
  refine wpAny_Call_Name_kw (NV.built (G := GF s.heap s.heap.objs.size [] [("self", .ref p)]) (fun h g => B.kp (.of_keep g.1)) rfl rfl rfl rfl rfl rfl _ _ _ _ _ _ g ?_)
  refine callWith_of (P := fun _ => True) rfl (fun h _ => KPr.builtin (G := fun _ => True) _ h trivial) (evalArgs_plain ?_)
  refine spliced_cons (genP (F := fun q y => ∃ u, y = .int (q.1.length + q.2.length) u) (c := 120) (Pt := 116) hA' (.inl ⟨rfl, rfl⟩) rfl rfl rfl rfl (by decide) rfl rfl rfl rfl (fun _ => rfl) B₀ C₀ T₀ (Bm.kp (.of_keep k)) P₀ (NV.fb (fun h g => g) rfl rfl rfl rfl rfl) g.2 ?_ ?_)
  · intro A' CC code a b hA' hab s₂ E' B₂ f₂
    refine ev_go (len_elt (L := CC) hA' rfl rfl rfl rfl rfl rfl rfl (hl _ hab) rfl rfl s₂ E' ⟨B₂, f₂⟩) fun y s₃ as r k₃ => ?_
    cases r with | int _ u => exact ⟨⟨u, rfl⟩, k₃⟩
  · intro a s₅ fp wr gi St W hst hfp ha hwr hT kg
    have kp₅ := kg.kp T₀
    have P₅ := P₀.kp kp₅
    have C₅ := C₀.kp kp₅
    obtain ⟨nm, q, sn, sub, ab, col, dd, k0, k1, k2, k3, k5, e⟩ := C₅.cls
    obtain ⟨mN, nN, _, hfree⟩ := C₅.ns
    obtain ⟨u, I⟩ := P₅.inst
    have B₅ := B₀.kp kp₅
    refine spliced_cons (Attribute_Name_ (NV.fb (G := fun h => FB s.heap.objs.size [] [("self", .ref p)] h) (v := .ref p) (fun h g => g) rfl rfl rfl rfl rfl _ _ _ _ _ _ (g.2.kp kp₅) ?_))
    obtain ⟨h5, g5, d5, t5, os5⟩ := s₅
    refine load_attrL (v := .int st u) (by decide) e nN (hfree _ (by decide)) (hfree _ (by decide)) (hfree _ (by decide)) lk_list_init_size I (by simp) rfl ?_
    refine spliced_nil ⟨trivial, ?_⟩
    have W4 := W.in4_1
    refine call_sum2 (W4.self 0 _ _ _ (W.frame 0 ⟨h5, g5, d5, t5, os5⟩ h5 (t5 + 1) hst (Nat.le_succ _) fun _ _ _ e => e) ⟨a, fp, wr, _, _, _, _, fun i => (((ts.getD i default).1.length : Int) + (ts.getD i default).2.length), rfl, W4, W.frame 0 ⟨h5, g5, d5, t5, os5⟩ h5 (t5 + 1) hst (Nat.le_succ _) fun _ _ _ e => e, hfp, fun i v hv => ?_, fun s' t' hm => ?_⟩)
    · obtain ⟨q, hq, u', rfl⟩ := hv
      exact ⟨u', by dsimp only; rw [List.getD_eq_getElem?_getD, hq]; rfl⟩
    · rw [preSum_len ts ts.length (Nat.le_refl _), List.take_length]
      have kg' := kg_moved T₀ kg hwr (keeps_toks _ (t5 + 1)) hm
      have k0 : KG s { s with heap := h₀, toks := s.toks + 1 } := .of_keeps T ⟨h₀, _, rfl, k⟩
      exact hQ t' s' (k0.trans kg')
end
end Mine
set_option maxRecDepth 100000
set_option linter.all false
namespace Mine
open PySem PySem.Spec PySem.Calls PyProof.Rows PySem.W
theorem join_two (a b : Str) : Txt.join (Str.ofString "") [a, b] = a ++ b := by
  obtain ⟨a⟩ := a
  obtain ⟨b⟩ := b
  unfold Txt.join Builtin.Str.glued
  have e : (Str.ofString "").cps = #[] := by decide +kernel
  rw [e]
  show Str.mk _ = Str.mk _
  simp
noncomputable def texts (ts : List (Str × Str)) : List Str := ts.map fun q => q.1 ++ q.2
theorem Str.len_append (a b : Str) : (a ++ b).length = a.length + b.length := PySem.Str.length_append a b
section
variable {w : World} {A : Around} {env : Env} {G : Heap → Prop}
theorem EV.empty (hG : ∀ h, G h → Base h) {pos : Pos} (hx : env.kindOf "EMPTYSTRING" = some .globalImplicit) (hk : env.scope.kind = .function) (hg : env.globals = mainGlobals) : EV w A env G false (.Name "EMPTYSTRING" pos) (.str "") := by
  intro s E g
  obtain ⟨mg, n, _, _, _, ⟨t, e⟩⟩ := (hG _ g).gl
  exact Name_function_global hk hx (loadGlobal_global (mg := mg) (by rw [hg]; exact n) e ⟨⟨[], .str _ _, ff⟩, keeps_refl _⟩) rfl
theorem EV.joinT (hm : Mono G) {f b : Bool} {o e : Expr} {apos pos : Pos} {x : Str} {ys : List Str} {pl : Sem Bool} (ho : EV w A env G f o (.str x)) (hk' : EV w A env G b e (.tuple (ys.map .str))) (hok : (ys.map (·.length)).sum + ys.length * x.length ≤ 16777216)
    (he : autoParam (eval (.Call (.Attribute o (Str.ofString "join") apos) [e] [] pos) env = (do
      let ov ← eval o env
      standAt apos.atName
      let (f, first) ← holding [ov] (getMethod ov (Str.ofString "join") pl)
      callWith pos f first (backTo pos (starEach [e] env)) [])) byRfl)
    (hs : autoParam (starEach [e] env = (false, eval e env) :: starEach [] env) byRfl) :
    EV w A env G true (.Call (.Attribute o (Str.ofString "join") apos) [e] [] pos) (.str (Txt.join x ys)) :=
  .methS hm (pl := pl) PySem.F.slot_str_join PySem.F.type_str_join ho (.cons hm hk' .nil hs) (fun s E t vs as g rv => by
    refine rds1 rv fun x1z b1z r1 => ?_
    refine rdsT r1 fun a1z i1z n1z ho r => ?_
    exact join_tuple ⟨_, ho, rfl, _, rfl⟩ (strsAre_of r) hok fun t' k => ⟨⟨[], .str _ _, fun _ h => nomatch h⟩, keeps_toks _ _⟩) he hs
end
section
variable {w : World} {A : Around} {E : Value → Shared → Prop} {s : Shared} {Q : Value → Shared → Prop}
theorem str_elt {env : Env} {A' : Around} {L : Addr} {a b : Str} {p1 p2 p3 p4 p5 p6 : Pos} {kt : Nat} {pl : Sem Bool} (hA' : A'.handled = none) (hL : env.locals = L) (hk : env.scope.kind = .function) (hg : env.globals = mainGlobals) (h1 : env.kindOf "fws" = some .local) (h2 : env.kindOf "part" = some .local) (h3 : env.kindOf "EMPTYSTRING" = some .globalImplicit)
    (ha : a.length ≤ 1000 ∧ b.length ≤ 1000)
    (he : eval (.Call (.Attribute (.Name "EMPTYSTRING" p1) (Str.ofString "join") p2) [.Tuple [.Name "fws" p3, .Name "part" p4] kt p5] [] p6) env = (do
      let ov ← eval (.Name "EMPTYSTRING" p1) env
      standAt p2.atName
      let (f, first) ← holding [ov] (getMethod ov (Str.ofString "join") pl)
      callWith p6 f first (backTo p6 (starEach [.Tuple [.Name "fws" p3, .Name "part" p4] kt p5] env)) []))
    (hs : starEach [.Tuple [.Name "fws" p3, .Name "part" p4] kt p5] env = (false, eval (.Tuple [.Name "fws" p3, .Name "part" p4] kt p5) env) :: starEach [] env)
    (hs2 : starEach [.Name "fws" p3, .Name "part" p4] env = (false, eval (.Name "fws" p3) env) :: starEach [.Name "part" p4] env)
    (hs3 : starEach [.Name "part" p4] env = (false, eval (.Name "part" p4) env) :: starEach [] env) :
    EV w A' env (fun h => Base h ∧ FB L [("fws", .str a), ("part", .str b)] [] h) true (.Call (.Attribute (.Name "EMPTYSTRING" p1) (Str.ofString "join") p2) [.Tuple [.Name "fws" p3, .Name "part" p4] kt p5] [] p6) (.str (a ++ b)) := by
  have hm : Mono (fun h => Base h ∧ FB L [("fws", .str a), ("part", .str b)] [] h) := fun h h' k x => ⟨x.1.kp (.of_keep k), x.2.kp (.of_keep k)⟩
  rw [← join_two]
  exact EV.joinT hm (pl := pl) (ys := [a, b]) (EV.empty (fun h g => g.1) h3 hk hg) (EV.tuple (f := false) (ds := [.str a, .str b]) (.cons hm (EV.fb (fun h g => g.2) rfl hL hk h1 rfl) (.cons hm (EV.fb (fun h g => g.2) rfl hL hk h2 rfl) .nil hs3) hs2) (show 2 ≤ sizeLine by decide))
    (by
      have e0 : (Str.ofString "").length = 0 := by decide +kernel
      rw [e0]; simp; omega) he hs
/- __str__ -/
theorem str_ok {p : Addr} {st : Int} {ts : List (Str × Str)} (hA : Room 2 A) (B : Base s.heap) (C : AccAt s.heap) (T : Tabs s.heap) (Bm : BmAt s.heap) (F : MAt s.heap 128 "__str__" "_Accumulator.__str__" (mSt 5) .none 127 [])
    (P : PileAt s.heap p st (ts.map prD)) (hz : ts.length ≤ 1000) (hl : ∀ q ∈ ts, q.1.length ≤ 1000 ∧ q.2.length ≤ 1000)
    (hQ : ∀ u s', KG s s' → Q (.str (Txt.join "" (texts ts)) u) s') : wpAny (model thePr w) A (PySem.call (.ref 128) [.ref p]) Q E s := by
  refine callM (binds := [("self", .ref p)]) F B.lim hA.here (fun pm ct => .of_eq rfl) (by decide) (locs rfl) fun pm ct h₀ n k => ?_
  have hA' := hA.deeper (callEnv (fdM "__str__" "_Accumulator.__str__" (mSt 5) .none pm ct 127 []) s.heap.objs.size 128)
  have g : GF s.heap s.heap.objs.size [] [("self", .ref p)] h₀ := GF.start n k (fun q hq => by simp at hq) (by intro q hq; simp at hq; subst hq; rfl)
  have B₀ := B.kp (.of_keep k)
  have C₀ := C.kp (.of_keep k)
  have P₀ := P.kf k
  have T₀ := T.kf k
  refine wpAny_execs_cons (wpAny_Return_some ?_)
  refine MethodCall_ (pl := _) (ev_goK (EV.empty (w := w) (G := GF s.heap s.heap.objs.size [] [("self", .ref p)]) (fun h g => B.kp (.of_keep g.1)) rfl rfl rfl _ _ g) fun ov qs h₁ tk₁ ro k₁ => ?_) rfl
  cases ro with
  | str _ t =>
  have g₁ := mono_GF _ _ k₁ g
  have B₁ := B₀.kp (.of_keep k₁)
  have C₁ := C₀.kp (.of_keep k₁)
  have P₁ := P₀.kf k₁
  have T₁ := T₀.kf k₁
  refine getMethod_builtin (typeIs_str _ _ _) PySem.F.plainAttrs_str PySem.F.slot_str_join PySem.F.type_str_join (fun a e => by cases e) ?_
  refine callWith_method1 ?_ rfl rfl
  refine spliced_cons (genP (F := fun q y => ∃ u, y = .str (q.1 ++ q.2) u) (c := 127) (Pt := 123) hA' (.inr ⟨rfl, rfl⟩) rfl rfl rfl rfl (by decide) rfl rfl rfl rfl (fun _ => rfl) B₁ C₁ T₁ (Bm.kp (.of_keep (Kf.trans k k₁))) P₁ (NV.fb (fun h g => g) rfl rfl rfl rfl rfl) g₁.2 ?_ ?_)
  · intro A' CC code a b hA' hab s₂ E' B₂ f₂
    refine ev_go (str_elt (L := CC) hA' rfl rfl rfl rfl rfl rfl (hl _ hab) rfl rfl rfl rfl s₂ E' ⟨B₂, f₂⟩) fun y s₃ as r k₃ => ?_
    cases r with | str _ u => exact ⟨⟨u, rfl⟩, k₃⟩
  · intro a s₅ fp wr gi St W hst hfp ha hwr hT kg
    refine spliced_nil ?_
    have h1000 : 1000 ≤ sizeLine := by decide
    refine SC.joinGen W.in4_2 hT hst hfp ha (fun j v hv => by obtain ⟨q, _, u, e⟩ := hv; exact ⟨_, u, e⟩) (fun s' lt hm hacc => ?_) (by omega)
    have hlt : lt.map (·.1) = texts ts := by
      apply List.ext_getElem?
      intro j
      have hsz : lt.length = ts.length := by simpa [strValues] using hacc.1
      by_cases hj : j < ts.length
      · have hj' : j < lt.length := hsz ▸ hj
        obtain ⟨q, hq, u, hv⟩ := hacc.2 j (.str lt[j].1 lt[j].2) (by simp [strValues, List.getElem?_eq_getElem hj'])
        injection hv with h1 _
        rw [List.getElem?_map, List.getElem?_eq_getElem hj', texts, List.getElem?_map, hq]
        simp [h1]
      · rw [List.getElem?_eq_none (by simpa [hsz] using Nat.le_of_not_lt hj), List.getElem?_eq_none (by simpa [texts] using Nat.le_of_not_lt hj)]
    rw [hlt]
    refine ⟨joinOk_of ?_, fun t' k' => ?_⟩
    · have e0 : (Str.ofString "").length = 0 := by decide +kernel
      rw [e0, Nat.mul_zero, Nat.add_zero]
      have : ∀ ts : List (Str × Str), (∀ q ∈ ts, q.1.length ≤ 1000 ∧ q.2.length ≤ 1000) → ((texts ts).map (·.length)).sum ≤ 2000 * ts.length := by
        intro ts
        induction ts with
        | nil => intro _; simp [texts]
        | cons q r ih =>
          intro h
          have h1 := h q (by simp)
          have h2 := ih fun q hq => h q (by simp [hq])
          have e1 : ((texts (q :: r)).map (·.length)).sum = (q.1 ++ q.2).length + ((texts r).map (·.length)).sum := by simp [texts]
          rw [e1, Str.len_append, List.length_cons]
          omega
      have := this ts hl
      omega
    · have kg' := kg_moved T₁ kg hwr (keeps_refl _) hm
      have k0 : KG s { s with heap := h₁, toks := tk₁ } := .of_keeps T ⟨h₁, _, rfl, Kf.trans k k₁⟩
      have k1 : KG s' { s' with toks := k' } := .of_keeps kg'.there (keeps_toks _ _)
      exact hQ t' _ ((k0.trans kg').trans k1)
end
end Mine
set_option maxRecDepth 100000
set_option linter.all false
namespace Mine
open PySem PySem.Spec PySem.Calls PyProof.Rows PySem.W
section
variable {w : World} {A : Around} {E : Value → Shared → Prop} {s : Shared} {Q : Value → Shared → Prop}
theorem callStr {v : Value} (hs : wpAny (model thePr w) A.in1.in1 (Builtin.Str.strOf v) (fun r s' => ∃ x u, r = .str x u ∧ Q (.str x u) s') E s) : wpAny (model thePr w) A (PySem.call (.type "str") [v]) Q E s := by
  have ft := PySem.F.called_str
  obtain ⟨c, tl, hmro⟩ := ft.mro
  have hmade := ft.made
  have hsub := ft.sub
  have hct := PySem.F.typeCall_str_1 v
  refine wpAny_call (codeAny_of_tree ?_)
  show wpAny _ _ (callAny (.type "str") _) _ _ _
  refine wpAny_pure ⟨Code.quiet_builtin _ (by decide +kernel), codeAny_builtin PySem.F.entry_type_call ?_⟩
  rw [Around.under_plain (weight_type_call_type "str" [v] []) (units_type_call_type "str" [v] [])]
  have h1 := ft.notType
  have h2 := ft.canCreate
  repeat (any_goals (first | assumption | wp_step))
  refine codeAny_mono (R := fun r s' => (∃ x u, r = .ok (.ret (.str x u)) ∧ Q (.str x u) s') ∨ ∃ e, r = .error e ∧ E e s') (codeAny_call_builtin ft.plain PySem.F.entry_str_new (wpAny_of_eq (PySem.F.newCall_str_1 v) ?_)) fun r s₁ hr => ?_
  · show wpAny _ _ (Builtin.«str.__new__» ⟨[.type "str", v], []⟩) _ _ _
    rw [PySem.str_new_tree v]
    refine wpAny_bind (wpAny_pure ?_)
    refine wpAny_bind (wpAny_of_eq isSubtype_str_str ?_)
    refine wpAny_bind (wpAny_mono hs (fun r s' h' => wpAny_pure ?_) fun e s' h' => .inr ⟨e, rfl, h'⟩)
    obtain ⟨x, u, rfl, hq⟩ := h'
    exact .inl ⟨x, u, rfl, hq⟩
  · rcases hr with ⟨x, u, rfl, hq⟩ | ⟨e, rfl, he⟩
    · have hT : s₁.TypeIs (.str x u) "str" := typeIs_str _ _ _
      have hok := PySem.F.args_object_init_2 (.str x u) v
      have gi := object_init_meets (self := .str x u) (rest := [v]) ft.init.lookup ft.made (by decide)
      show wpAny _ _ _ _ _ _
      dsimp only
      refine wpAny_bind (wpAny_isInstance hT ft.sub ?_)
      rw [if_neg (by decide)]
      refine wpAny_bind (wpAny_holding (wpAny_callSpecial?_slot (name := Str.ofString "__init__") (args := [v]) hT ft.init (call_meets ft.init hT PySem.F.entry_object_init hok gi ⟨hT, ?_⟩)))
      show wpAny _ _ _ _ _ _
      dsimp only
      rw [if_neg (by decide)]
      exact wpAny_pure hq
    · exact he
theorem lk_llen : typeLookup (.type "list") "__len__" = pure (some (.builtin "list.__len__")) := PySem.slot_list_len.lookup
theorem lk_lstr : ∃ y, typeLookup (.type "list") "__str__" = pure y := ⟨some (.builtin "object.__str__"), by rw [typeLookup_type, builtinLookup_eq_fast]; kernel_rfl⟩
/- len(pile) -/
theorem lenP {p : Addr} {st : Int} {ts : List (Str × Str)} (hA : Room 3 A) (B : Base s.heap) (C : AccAt s.heap) (T : Tabs s.heap) (Bm : BmAt s.heap) (F : MAt s.heap 121 "__len__" "_Accumulator.__len__" (mSt 4) .none 120 [])
    (P : PileAt s.heap p st (ts.map prD)) (hl : ∀ q ∈ ts, q.1.length ≤ 1000 ∧ q.2.length ≤ 1000) (h0 : 0 ≤ st + lenOf ts ∧ st + lenOf ts < 2 ^ 63)
    (hQ : ∀ u s', KG s s' → Q (.int (st + lenOf ts) u) s') : wpAny (model thePr w) A (PySem.call (.builtin "len") [.ref p]) Q E s := by
  obtain ⟨o, items, n, dx, u, ho, hc, _⟩ := id P
  obtain ⟨⟨of, pm, ct, hof, hoc, hod⟩, _⟩ := id F
  obtain ⟨h, g, d, t, os⟩ := s
  refine len_own (ownP (s := ⟨h, g, d, t, os⟩) C ho hc (name := "__len__") (f := 121) rfl hof hoc lk_llen) ?_
  refine len_ok (Room.in1 (n := 2) hA) B C T Bm F P hl fun u s' k => ⟨_, _, rfl, h0.1, h0.2, ?_⟩
  exact hQ _ _ (k.trans (.of_keeps k.there (keeps_toks _ _)))
/- str(pile) -/
theorem strP {p : Addr} {st : Int} {ts : List (Str × Str)} (hA : Room 4 A) (B : Base s.heap) (C : AccAt s.heap) (T : Tabs s.heap) (Bm : BmAt s.heap) (F : MAt s.heap 128 "__str__" "_Accumulator.__str__" (mSt 5) .none 127 [])
    (P : PileAt s.heap p st (ts.map prD)) (hz : ts.length ≤ 1000) (hl : ∀ q ∈ ts, q.1.length ≤ 1000 ∧ q.2.length ≤ 1000)
    (hQ : ∀ u s', KG s s' → Q (.str (Txt.join "" (texts ts)) u) s') : wpAny (model thePr w) A (PySem.call (.type "str") [.ref p]) Q E s := by
  obtain ⟨o, items, n, dx, u, ho, hc, _⟩ := id P
  obtain ⟨⟨of, pm, ct, hof, hoc, hod⟩, _⟩ := id F
  obtain ⟨y, hy⟩ := lk_lstr
  refine callStr ?_
  unfold Builtin.Str.strOf
  rw [show Builtin.Str.isExactStr (.ref p) = false from rfl, if_neg (by decide)]
  refine wpAny_bind (wpAny_cRoomFor (by have := hA.units; show A.units + 1 + 1 < cLine; omega) ?_)
  obtain ⟨h, g, d, t, os⟩ := s
  refine wpAny_bind (m := callSpecial? (.ref p) (Str.ofString "__str__")) (wpAny_callSpecial?_own (ownP (s := ⟨h, g, d, t, os⟩) C ho hc (name := "__str__") (f := 128) rfl hof hoc hy) ?_)
  refine str_ok (Room.in1 (n := 2) (Room.in1 (n := 3) hA)) B C T Bm F P hz hl fun u s' k => ?_
  exact wpAny_pure ⟨_, _, rfl, hQ _ _ k⟩
end
end Mine
set_option maxRecDepth 100000
set_option linter.all false
namespace Mine
open PySem PySem.Spec PySem.Calls PyProof.Rows PySem.W
section
variable {w : World} {A : Around} {E : Value → Shared → Prop} {s : Shared} {Q : Value → Shared → Prop}
/- the builtin len, its body on a pile -/
theorem len_bodyP {p : Addr} {st : Int} {ts : List (Str × Str)} {Q : Value → Shared → Prop} (hA : Room 3 A) (B : Base s.heap) (C : AccAt s.heap) (T : Tabs s.heap) (Bm : BmAt s.heap) (F : MAt s.heap 121 "__len__" "_Accumulator.__len__" (mSt 4) .none 120 [])
    (P : PileAt s.heap p st (ts.map prD)) (hl : ∀ q ∈ ts, q.1.length ≤ 1000 ∧ q.2.length ≤ 1000) (h0 : 0 ≤ st + lenOf ts ∧ st + lenOf ts < 2 ^ 63)
    (hQ : ∀ u s', KG s s' → Q (.int (st + lenOf ts) u) s') : wpAny (model thePr w) A.in1 (Builtin.«len» ⟨[.ref p], []⟩) (fun fin s' => ∃ v, fin = .done (.ret v) ∧ Q v s') E s := by
  obtain ⟨o, items, n, dx, u, ho, hc, _⟩ := id P
  obtain ⟨⟨of, pm, ct, hof, hoc, hod⟩, _⟩ := id F
  obtain ⟨h, g, d, t, os⟩ := s
  unfold Builtin.«len»
  refine wpAny_bind (m := oneArg "len" _) (wpAny_pure ?_)
  refine wpAny_bind (m := callSpecial? (.ref p) (Str.ofString "__len__")) (wpAny_callSpecial?_own (ownP (s := ⟨h, g, d, t, os⟩) C ho hc (name := "__len__") (f := 121) rfl hof hoc lk_llen) ?_)
  refine len_ok (Room.in1 (n := 2) hA) B C T Bm F P hl fun u s' k => ?_
  refine wpAny_bind (wpAny_holding (wpAny_pure ?_))
  refine wpAny_bind (wpAny_letGo ?_)
  show wpAny _ _ (if st + lenOf ts < 0 then _ else _) _ _ _
  rw [if_neg (by omega)]
  show wpAny _ _ (if st + lenOf ts ≥ 2 ^ 63 then _ else _) _ _ _
  rw [if_neg (by omega)]
  exact wpAny_bind (wpAny_mkInt (wpAny_pure ⟨_, rfl, hQ _ _ (k.trans (.of_keeps k.there (keeps_toks _ _)))⟩))
theorem lk_lbool : typeLookup (.type "list") "__bool__" = pure none := noBool_list
theorem truthyP {p : Addr} {st : Int} {ts : List (Str × Str)} {Q : Bool → Shared → Prop} (hA : Room 3 A) (B : Base s.heap) (C : AccAt s.heap) (T : Tabs s.heap) (Bm : BmAt s.heap) (F : MAt s.heap 121 "__len__" "_Accumulator.__len__" (mSt 4) .none 120 [])
    (P : PileAt s.heap p st (ts.map prD)) (hl : ∀ q ∈ ts, q.1.length ≤ 1000 ∧ q.2.length ≤ 1000) (h0 : 0 ≤ st + lenOf ts ∧ st + lenOf ts < 2 ^ 63)
    (hQ : ∀ s', KG s s' → Q (st + lenOf ts != 0) s') : wpAny (model thePr w) A (truthy (.ref p)) Q E s := by
  have key : wpAny (model thePr w) A (runValue (.builtin "len" ⟨[.ref p], []⟩)) (fun r s' => ∃ u, r = .int (st + lenOf ts) u ∧ Q (st + lenOf ts != 0) s') E s := by
    refine wpAny_runValue (codeAny_builtin entry_len ?_)
    rw [Around.under_plainId plain_len _]
    exact wpAny_mono (len_bodyP (Q := fun r s' => ∃ u, r = .int (st + lenOf ts) u ∧ Q (st + lenOf ts != 0) s') hA B C T Bm F P hl h0 fun u s' k => ⟨u, rfl, hQ s' k⟩)
      (fun fin s' h' => by obtain ⟨r, rfl, hq⟩ := h'; exact hq) fun _ _ e => e
  have noB : ∀ {Q : Option Value → Shared → Prop}, Q none s → wpAny (model thePr w) A (callSpecial? (.ref p) "__bool__") Q E s := fun hq => by
    simp only [callSpecial?]
    exact wpAny_bind (specP C P (by decide) lk_lbool (wpAny_pure hq))
  obtain ⟨o, items, n, dx, u, ho, hc, _⟩ := id P
  obtain ⟨⟨of, pm, ct, hof, hoc, hod⟩, _⟩ := id F
  have X := ownP C ho hc (name := "__len__") (f := 121) rfl hof hoc lk_llen
  have sp : ∀ {Q : Option Value → Shared → Prop}, Q (some (.ref 121)) s → wpAny (model thePr w) A (specialOf (.ref p) "__len__") Q E s := fun hq => by
    obtain ⟨h, g, d, t, os⟩ := s
    exact wpAny_specialOf_own X hq
  unfold truthy
  first
    | refine wpAny_bind (noB ?_)
    | refine wpAny_bind (wpAny_pure (wpAny_bind (noB ?_)))
  first
    | refine wpAny_bind (sp ?_)
    | refine wpAny_bind (wpAny_pure (wpAny_bind (sp ?_)))
  first
    | exact wpAny_bind (wpAny_mono key (fun r s' h' => by obtain ⟨u, rfl, hq⟩ := h'; exact wpAny_pure hq) fun _ _ e => e)
    | exact wpAny_bind (wpAny_pure (wpAny_bind (wpAny_mono key (fun r s' h' => by obtain ⟨u, rfl, hq⟩ := h'; exact wpAny_pure hq) fun _ _ e => e)))
end
end Mine
set_option maxRecDepth 100000
set_option linter.all false
namespace Mine
open PySem PySem.Spec PySem.Calls PyProof.Rows PySem.W
noncomputable def onlyws (st : Int) (ts : List (Str × Str)) : Bool := st == 0 && (!(st + lenOf ts != 0) || Txt.isspace (Txt.join "" (texts ts)))
/- the defs of the class that the law reaches -/
structure Defs (h : Heap) : Prop where
  acc : AccAt h
  init : MAt h 91 "__init__" "_Accumulator.__init__" (mSt 0) (.ref 83) 90 [("__class__", 78)]
  push : MAt h 98 "push" "_Accumulator.push" (mSt 1) .none 97 []
  popf : MAt h 106 "pop_from" "_Accumulator.pop_from" (mSt 2) (.ref 99) 105 []
  pop : MAt h 114 "pop" "_Accumulator.pop" (mSt 3) .none 113 [("__class__", 78)]
  len : MAt h 121 "__len__" "_Accumulator.__len__" (mSt 4) .none 120 []
  str : MAt h 128 "__str__" "_Accumulator.__str__" (mSt 5) .none 127 []
  only : MAt h 143 "is_onlyws" "_Accumulator.is_onlyws" (mSt 7) .none 142 []
  part : MAt h 151 "part_count" "_Accumulator.part_count" (mSt 8) .none 150 [("__class__", 78)]
  d83 : ∃ t, h.get? 83 = some (tupO #[.int 0 t] 0)
  d99 : ∃ t, h.get? 99 = some (tupO #[.int 0 t] 0)
  c90 : CfAt h 90
  c113 : CfAt h 113
  c150 : CfAt h 150
  opq : OpqAt h
  bm : BmAt h
theorem Defs.kp {h h' : Heap} (k : Kp h h') (D : Defs h) : Defs h' where
  acc := D.acc.kp k
  init := D.init.kp k
  push := D.push.kp k
  popf := D.popf.kp k
  pop := D.pop.kp k
  len := D.len.kp k
  str := D.str.kp k
  only := D.only.kp k
  part := D.part.kp k
  d83 := by obtain ⟨t, e⟩ := D.d83; exact ⟨t, k _ _ e rfl⟩
  d99 := by obtain ⟨t, e⟩ := D.d99; exact ⟨t, k _ _ e rfl⟩
  c90 := D.c90.kp k
  c113 := D.c113.kp k
  c150 := D.c150.kp k
  opq := D.opq.kp k
  bm := D.bm.kp k
section
variable {w : World} {A : Around} {E : Value → Shared → Prop} {s : Shared} {Q : Value → Shared → Prop}
theorem EV.attrP {env : Env} {G : Heap → Prop} {x : Str} {p : Addr} {st : Int} {ps : List PyData} {px pos : Pos} (hn : NV env G x (.ref p)) (hG : ∀ h, G h → AccAt h ∧ PileAt h p st ps)
    (he : eval (.Attribute (.Name x px) "_initial_size" pos) env = (do
      let o ← eval (.Name x px) env
      standAt pos.atName
      let r ← holding [o] (getAttr o "_initial_size" true)
      letTemporaryGo (.Name x px) o r
      pure r)) : EV w A env G false (.Attribute (.Name x px) "_initial_size" pos) (.int st) := by
  intro s E g
  obtain ⟨C, P⟩ := hG _ g
  obtain ⟨nm, q, sn, sub, ab, col, dd, k0, k1, k2, k3, k5, e⟩ := C.cls
  obtain ⟨mN, nN, _, hfree⟩ := C.ns
  obtain ⟨u, I⟩ := P.inst
  refine Attribute_Name_ (hn _ _ _ _ _ _ g ?_) he
  obtain ⟨h5, g5, d5, t5, os5⟩ := s
  exact load_attrL (v := .int st u) (by decide) e nN (hfree _ (by decide)) (hfree _ (by decide)) (hfree _ (by decide)) lk_list_init_size I (by simp) rfl ⟨⟨[], .int _ _, ff⟩, ⟨h5, _, rfl, fun _ _ e => e⟩⟩
/- is_onlyws -/
theorem only_ok {p : Addr} {st : Int} {ts : List (Str × Str)} (hA : Room 5 A) (B : Base s.heap) (D : Defs s.heap) (T : Tabs s.heap)
    (P : PileAt s.heap p st (ts.map prD)) (hz : ts.length ≤ 1000) (hl : ∀ q ∈ ts, q.1.length ≤ 1000 ∧ q.2.length ≤ 1000) (h0 : 0 ≤ st + lenOf ts ∧ st + lenOf ts < 2 ^ 63)
    (hQ : ∀ s', KG s s' → Q (.bool (onlyws st ts)) s') : wpAny (model thePr w) A (PySem.call (.ref 143) [.ref p]) Q E s := by
  refine callM (binds := [("self", .ref p)]) D.only B.lim hA.here (fun pm ct => .of_eq rfl) (by decide) (locs rfl) fun pm ct h₀ n k => ?_
  have hA' := hA.deeper (callEnv (fdM "is_onlyws" "_Accumulator.is_onlyws" (mSt 7) .none pm ct 142 []) s.heap.objs.size 143)
  have g : GF s.heap s.heap.objs.size [] [("self", .ref p)] h₀ := GF.start n k (fun q hq => by simp at hq) (by intro q hq; simp at hq; subst hq; rfl)
  refine wpAny_execs_cons (wpAny_Return_some (wpAny_And2 ?_))
  refine ev_goK (EV.eqi (w := w) (i := st) (j := 0) mono_GF (EV.attrP (NV.loc rfl rfl rfl rfl rfl) (fun h g => ⟨D.acc.kp (.of_keep g.1), P.kf g.1⟩) rfl) EV.int rfl _ _ g) fun v as h₁ tk₁ r k₁ => ?_
  have g₁ := mono_GF _ _ k₁ g
  first | refine rdsI r fun _ => ?_ | refine rdsS r fun _ => ?_ | refine rdsB r ?_ | refine rdsN r ?_
  refine wpAny_truthy_bool ?_
  have B₁ := B.kp (.of_keep g₁.1)
  have D₁ := D.kp (.of_keep g₁.1)
  have P₁ := P.kf g₁.1
  have T₁ := T.kf g₁.1
  have k01 : KG s { s with heap := h₁, toks := tk₁ } := .of_keeps T ⟨h₁, _, rfl, g₁.1⟩
  cases hst : (st == 0) with
  | false =>
    have : onlyws st ts = false := by unfold onlyws; rw [hst]; rfl
    rw [if_neg (by decide)]
    exact this ▸ hQ _ k01
  | true =>
    rw [if_pos rfl]
    refine wpAny_Or2 (wpAny_UnaryOp (NV.loc (v := .ref p) rfl rfl rfl rfl rfl _ _ _ _ _ _ g₁ ?_))
    unfold unaryOp
    refine wpAny_holding ?_
    dsimp only
    rw [if_pos (by decide)]
    refine wpAny_bind (truthyP (Room.le (n := 4) (m := 3) hA' (by decide)) B₁ D₁.acc T₁ D₁.bm D₁.len P₁ hl h0 fun s₂ k₂ => wpAny_pure (wpAny_truthy_bool ?_))
    have e1 : onlyws st ts = (!(st + lenOf ts != 0) || Txt.isspace (Txt.join "" (texts ts))) := by unfold onlyws; rw [hst]; rfl
    cases hlen : (!(st + lenOf ts != 0)) with
    | true =>
      rw [if_pos rfl]
      have : onlyws st ts = true := by rw [e1, hlen]; rfl
      exact this ▸ hQ _ (k01.trans k₂)
    | false =>
      rw [if_neg (by decide)]
      have kp₂ := k₂.kp T₁
      have f₂ : FB s.heap.objs.size [] [("self", .ref p)] s₂.heap := g₁.2.kp kp₂
      have B₂ := B₁.kp kp₂
      have D₂ := D₁.kp kp₂
      refine MethodCall_ (pl := _) ?_ rfl
      refine wp_call1 (G := fun h => Base h ∧ FB s.heap.objs.size [] [("self", .ref p)] h) ⟨B₂, f₂⟩ (NV.built (fun h g => g.1) rfl rfl rfl rfl rfl rfl) .type (NV.fb (v := .ref p) (fun h g => g.2) rfl rfl rfl rfl rfl) ?_
      refine strP hA' B₂ D₂.acc k₂.there D₂.bm D₂.str (P₁.kp kp₂) hz hl fun u s₃ k₃ => ?_
      generalize Txt.join (Str.ofString "") (texts ts) = X at e1 ⊢
      refine GM.isspace ?_
      refine callWith_of (args := []) (keywords := []) (P := fun h => True) rfl (fun h _ => ⟨.machine, .inr (.inl rfl), Looks.of_pure rfl⟩) (PyProof.Rows.evalArgs_none ⟨trivial, ?_⟩)
      refine SC.isspace ?_
      have : onlyws st ts = Txt.isspace X := by rw [e1, hlen]; rfl
      exact this ▸ hQ _ ((k01.trans k₂).trans k₃)
end
end Mine
set_option maxRecDepth 100000
set_option linter.all false
namespace Mine
open PySem PySem.Spec PySem.Calls PyProof.Rows PySem.W
/- the name x holds v: a cell's name or one of the frame's own -/
noncomputable def Holds (cl : List (Str × Addr)) (m : Str → Option Value) (h : Heap) (x : Str) (v : Value) : Prop := match cl.lookup x with | some c => h.IsCell c (some v) | none => m x = some v
inductive Ent where
  | d (x : PyData)
  | v (x : Value)
/- what the value is known as -/
noncomputable def EntOk (ms : List (Addr × List PyData)) (h : Heap) (v : Value) : Ent → Prop
  | .d d => ∃ as, Rds h v d as ∧ ∀ a ∈ as, ∀ p ∈ ms, a ≠ p.1
  | .v w => v = w
theorem EntOk.up {ms : List (Addr × List PyData)} {h h' : Heap} {v : Value} {e : Ent} (k : ∀ v d as, Rds h v d as → (∀ a ∈ as, ∀ p ∈ ms, a ≠ p.1) → Rds h' v d as) (x : EntOk ms h v e) : EntOk ms h' v e := by
  cases e with
  | d d => obtain ⟨as, r, n⟩ := x; exact ⟨as, k _ _ _ r n, n⟩
  | v w => exact x
noncomputable abbrev Pl := Option (Addr × Int × List PyData)
/- the frame of the law -/
structure LF (h0 : Heap) (L : Addr) (cl : List (Str × Addr)) (X : Addr → Prop) (hb : Heap) (bs : List (Str × Ent)) (ms : List (Addr × List PyData)) (pl : Pl) (h : Heap) : Prop where
  kp : Kp h0 h
  old : OldK h0 h
  tabs : Tabs h
  kx : KX X hb h
  fr : ∃ m, h.Ns L m ∧ (∀ x e, bs.lookup x = some e → ∃ v, Holds cl m h x v ∧ EntOk ms h v e) ∧ (∀ q, pl = some q → ∃ (y : Str) (w : Value), y ≠ ("_initial_size" : Str) ∧ m y = some w)
  cells : ∀ x c, cl.lookup x = some c → ∃ v, h.IsCell c v
  muts : ∀ p ∈ ms, ∃ items n, h.get? p.1 = some (listO items n) ∧ RdsAll h items.toList p.2 [] ∧ flatAll p.2 = true
  pile : ∀ q, pl = some q → PileAt h q.1 q.2.1 q.2.2 ∧ flatAll q.2.2 = true
/- what stays so all along -/
structure LS (h0 : Heap) (L : Addr) (cl : List (Str × Addr)) (X : Addr → Prop) (ms : List (Addr × List PyData)) (pl : Pl) : Prop where
  base : Base h0
  defs : Defs h0
  tabs0 : Tabs0 h0
  hL : h0.get? L = none
  hcn : ∀ x c, cl.lookup x = some c → h0.get? c = none
  hc : ∀ x c, cl.lookup x = some c → L < c
  apart : ∀ x y c, cl.lookup x = some c → cl.lookup y = some c → x = y
  hm : ∀ p ∈ ms, h0.get? p.1 = none
  nd : (ms.map (·.1)).Nodup
  hp : ∀ q, pl = some q → h0.get? q.1 = none
  xL : X L
  xc : ∀ x c, cl.lookup x = some c → X c
  xm : ∀ p ∈ ms, X p.1
  xp : ∀ q, pl = some q → X q.1
  xt : X 116 ∧ X 123
theorem Holds.kp {cl : List (Str × Addr)} {m : Str → Option Value} {h h' : Heap} {x : Str} {v : Value} (k : Kp h h') (q : Holds cl m h x v) : Holds cl m h' x v := by
  unfold Holds at q ⊢
  split
  · rename_i c hc
    rw [hc] at q
    exact cell_kp k q
  · rename_i hc
    rw [hc] at q
    exact q
section
variable {h0 : Heap} {L : Addr} {cl : List (Str × Addr)} {X : Addr → Prop} {hb : Heap} {bs : List (Str × Ent)} {ms : List (Addr × List PyData)} {pl : Pl} {h h' : Heap}
theorem LF.go (kp : Kp h h') (ok : OldK h0 h → OldK h0 h') (tb : Tabs h') (kx : KX X h h') (x : LF h0 L cl X hb bs ms pl h) : LF h0 L cl X hb bs ms pl h' where
  kp := x.kp.trans kp
  old := ok x.old
  tabs := tb
  kx := x.kx.trans kx
  fr := by
    obtain ⟨m, n, rb, y⟩ := x.fr
    exact ⟨m, ns_kp kp n, fun x d e => by obtain ⟨v, e1, e2⟩ := rb x d e; exact ⟨v, e1.kp kp, e2.up fun _ _ _ r _ => rds_kp kp r⟩, y⟩
  cells := fun y c e => by obtain ⟨v, q⟩ := x.cells y c e; exact ⟨v, cell_kp kp q⟩
  muts := fun p hp => by obtain ⟨items, n, e, r, f⟩ := x.muts p hp; exact ⟨items, n, kp _ _ e rfl, rdsAll_kp kp r, f⟩
  pile := fun q e => by obtain ⟨P, f⟩ := x.pile q e; exact ⟨P.kp kp, f⟩
theorem LF.kf (k : Kf h h') (x : LF h0 L cl X hb bs ms pl h) : LF h0 L cl X hb bs ms pl h' :=
  x.go (.of_keep k) (fun o => o.step_keeps k) (x.tabs.kf k) (.of_kf k)
theorem mono_LF : Mono (LF h0 L cl X hb bs ms pl) := fun h h' k x => x.kf k
theorem LF.kg {s s' : Shared} (S : LS h0 L cl X ms pl) (k : KG s s') (x : LF h0 L cl X hb bs ms pl s.heap) : LF h0 L cl X hb bs ms pl s'.heap :=
  x.go (k.kp x.tabs) (k.old h0 S.tabs0) k.there (fun b o hb e => k.keep b o (by rintro rfl; exact hb S.xt.1) (by rintro rfl; exact hb S.xt.2) e)
theorem LF.base (S : LS h0 L cl X ms pl) (x : LF h0 L cl X hb bs ms pl h) : Base h := S.base.kp x.kp
theorem LF.defs (S : LS h0 L cl X ms pl) (x : LF h0 L cl X hb bs ms pl h) : Defs h := S.defs.kp x.kp
theorem LF.sub {bs' : List (Str × Ent)} (x : LF h0 L cl X hb bs ms pl h) (hb' : ∀ p ∈ bs', bs.lookup p.1 = some p.2) : LF h0 L cl X hb bs' ms pl h where
  kp := x.kp
  old := x.old
  tabs := x.tabs
  kx := x.kx
  fr := by
    obtain ⟨m, n, rb, y⟩ := x.fr
    exact ⟨m, n, fun x d e => rb x d (hb' (x, d) (PySem.mem_of_lookup e)), y⟩
  cells := x.cells
  muts := x.muts
  pile := x.pile
theorem not_h0 {a : Addr} (ha : h0.get? a = none) {b : Addr} {o : Obj} (e : h0.get? b = some o) : b ≠ a := by rintro rfl; rw [ha] at e; cases e
theorem kp_but {a : Addr} (ha : h0.get? a = none) (k : KBut a h h') (x : Kp h0 h) : Kp h0 h' := fun b o e t => k b o (not_h0 ha e) (x b o e t)
theorem old_but {a : Addr} (ha : h0.get? a = none) (k : KBut a h h') (x : OldK h0 h) : OldK h0 h' := Mine.OldK.step_dom x fun b o o0 e0 e => k b o (not_h0 ha e0) e
theorem tabs_but {a : Addr} (T0 : Tabs0 h0) (ha : h0.get? a = none) (k : KBut a h h') (x : Tabs h) : Tabs h' := by
  obtain ⟨⟨ps, ⟨o1, _, e1, _⟩, e2⟩, ⟨ps', ⟨o3, _, e3, _⟩, e4⟩⟩ := T0
  exact ⟨x.l.at (fun o e => k _ _ (not_h0 ha e1) e) (fun o e => k _ _ (not_h0 ha e2) e), x.s.at (fun o e => k _ _ (not_h0 ha e3) e) (fun o e => k _ _ (not_h0 ha e4) e)⟩
theorem kx_but {a : Addr} (hx : X a) (k : KBut a h h') (x : KX X hb h) : KX X hb h' := fun b o hn e => k b o (by rintro rfl; exact hn hx) (x b o hn e)
/- data that do not hold the list at a -/
theorem rds_lbut {a : Addr} {items : Array Value} {n : Nat} (ha : h.get? a = some (listO items n)) (k : KBut a h h') {v : Value} {d : PyData} {as : List Addr} (r : Rds h v d as) (hn : ∀ b ∈ as, b ≠ a) : Rds h' v d as :=
  rds_mv (S := (· ≠ a)) (fun _ _ _ hn e => k _ _ hn e) (fun b _ _ e => k _ _ (fun q => list_ne_tup (ha.symm.trans (q ▸ e))) e) r hn
theorem rdsAll_lbut {a : Addr} {items : Array Value} {n : Nat} (ha : h.get? a = some (listO items n)) (k : KBut a h h') {vs : List Value} {ds : List PyData} {as : List Addr} (r : RdsAll h vs ds as) (hn : ∀ b ∈ as, b ≠ a) : RdsAll h' vs ds as :=
  rdsAll_mv (S := (· ≠ a)) (fun _ _ _ hn e => k _ _ hn e) (fun b _ _ e => k _ _ (fun q => list_ne_tup (ha.symm.trans (q ▸ e))) e) r hn
theorem rds_cbut {c : Addr} {v0 : Option Value} (hc : h.IsCell c v0) (k : KBut c h h') {v : Value} {d : PyData} {as : List Addr} (r : Rds h v d as) : Rds h' v d as :=
  rds_off (S := [c]) (fun b hb o vs n e => by
    simp at hb; subst hb
    obtain ⟨o', ho', hd'⟩ := hc
    rw [e] at ho'; cases ho'
    rw [hd']; nofun) (fun b o hb e => k b o (by simpa using hb) e) r
theorem rdsAll_cbut {c : Addr} {v0 : Option Value} (hc : h.IsCell c v0) (k : KBut c h h') {v : List Value} {d : List PyData} {as : List Addr} (r : RdsAll h v d as) : RdsAll h' v d as :=
  rdsAll_off (S := [c]) (fun b hb o vs n e => by
    simp at hb; subst hb
    obtain ⟨o', ho', hd'⟩ := hc
    rw [e] at ho'; cases ho'
    rw [hd']; nofun) (fun b o hb e => k b o (by simpa using hb) e) r
theorem pile_but {a p : Addr} {st : Int} {ps : List PyData} (hp : a ≠ p) (hd : ∀ dx u, h.Ns1 dx (fun y => if y = "_initial_size" then some (.int st u) else none) → a ≠ dx) (hr : ∀ items, RdsAll h items ps [] → RdsAll h' items ps []) (k : KBut a h h') (P : PileAt h p st ps) : PileAt h' p st ps := by
  obtain ⟨o, items, n, dx, u, ho, hc, hdd, hsl, hdx, hne, hns, r⟩ := P
  exact ⟨o, items, n, dx, u, k _ _ (Ne.symm hp) ho, hc, hdd, hsl, hdx, hne, hns.at fun o e => k _ _ (Ne.symm (hd dx u hns)) e, hr _ r⟩
end
/- what a name is to the frame -/
noncomputable def NK (env : Env) (cl : List (Str × Addr)) (x : Str) : Prop := (env.kindOf x = some .local ∧ cl.lookup x = none) ∨ ∃ c, env.kindOf x = some .cell ∧ cl.lookup x = some c ∧ env.cells.lookup x = some c
theorem ns_fn {h : Heap} {a : Addr} {m m' : Str → Option Value} (n : h.Ns a m) (n' : h.Ns1 a m') (y : Str) : m y = m' y := by
  obtain ⟨o, es, ep, ho, hd, hx, hr⟩ := n
  obtain ⟨o', es', ep', ho', hd', hx', hp', hr'⟩ := n'
  rw [ho] at ho'; cases ho'
  rw [hd] at hd'; cases hd'
  exact (hr y).symm.trans (hr' y)
theorem listO_dict {h : Heap} {a : Addr} {vs n m} (e : h.get? a = some (listO vs n)) (q : h.Ns a m) : False := by
  obtain ⟨o, es, ep, ho, hd, _⟩ := q
  rw [e] at ho; cases ho; cases hd
theorem listO_cell {h : Heap} {a : Addr} {vs n v} (e : h.get? a = some (listO vs n)) (q : h.IsCell a v) : False := by
  obtain ⟨o, ho, hd⟩ := q
  rw [e] at ho; cases ho; cases hd
theorem pile_ns {h : Heap} {p : Addr} {st ps m} (P : PileAt h p st ps) (q : h.Ns p m) : False := by
  obtain ⟨o, items, n, dx, u, ho, hc, hdd, _⟩ := P
  obtain ⟨o', es, ep, ho', hd, _⟩ := q
  rw [ho] at ho'; cases ho'; rw [hdd] at hd; cases hd
theorem pile_cell {h : Heap} {p : Addr} {st ps v} (P : PileAt h p st ps) (q : h.IsCell p v) : False := by
  obtain ⟨o, items, n, dx, u, ho, hc, hdd, _⟩ := P
  obtain ⟨o', ho', hd⟩ := q
  rw [ho] at ho'; cases ho'; rw [hdd] at hd; cases hd
theorem pile_list {h : Heap} {p : Addr} {st ps vs n} (P : PileAt h p st ps) (e : h.get? p = some (listO vs n)) : False := by
  obtain ⟨o, items, n, dx, u, ho, hc, hdd, _⟩ := P
  rw [ho] at e; cases e; cases hc
theorem ns_cell {h : Heap} {a : Addr} {m v} (q : h.Ns a m) (c : h.IsCell a v) : False := by
  obtain ⟨o', es, ep, ho', hd, _⟩ := q
  obtain ⟨o, ho, hd2⟩ := c
  rw [ho] at ho'; cases ho'; rw [hd] at hd2; cases hd2
section
variable {h0 : Heap} {L : Addr} {cl : List (Str × Addr)} {X : Addr → Prop} {hb : Heap} {bs : List (Str × Ent)} {ms : List (Addr × List PyData)} {pl : Pl}
/- the store of v under x, from h to h' -/
noncomputable def ST (L : Addr) (cl : List (Str × Addr)) (x : Str) (v : Value) (h h' : Heap) : Prop :=
  (∃ m, cl.lookup x = none ∧ h.Ns L m ∧ h'.Ns L (fun y => if y = x then some v else m y) ∧ KBut L h h') ∨ ∃ c v0, cl.lookup x = some c ∧ h.IsCell c v0 ∧ h'.IsCell c (some v) ∧ KBut c h h'
theorem ns_uniq {h : Heap} {a : Addr} {m m' : Str → Option Value} (n : h.Ns a m) (n' : h.Ns a m') : m = m' := by
  obtain ⟨o, es, ep, ho, hd, hx, hr⟩ := n
  obtain ⟨o', es', ep', ho', hd', hx', hr'⟩ := n'
  rw [ho] at ho'; cases ho'
  rw [hd] at hd'; cases hd'
  exact funext fun y => (hr y).symm.trans (hr' y)
theorem ST.rds {x : Str} {v : Value} {h h' : Heap} (t : ST L cl x v h h') {u : Value} {d : PyData} {as : List Addr} (r : Rds h u d as) : Rds h' u d as := by
  rcases t with ⟨m, _, n, _, k⟩ | ⟨c, v0, _, hc, _, k⟩
  · exact rds_but n k r
  · exact rds_cbut hc k r
theorem LF.st {x : Str} {v : Value} {en : Ent} {h h' : Heap} (S : LS h0 L cl X ms pl) (g : LF h0 L cl X hb bs ms pl h) (t : ST L cl x v h h') (r : EntOk ms h' v en) : LF h0 L cl X hb ((x, en) :: bs) ms pl h' := by
  obtain ⟨m, n, rb, hy⟩ := g.fr
  rcases t with ⟨m', hcl, nm, n₂, k⟩ | ⟨c, v0, hcl, hv0, hc₂, k⟩
  · obtain rfl := ns_uniq n nm
    refine ⟨kp_but S.hL k g.kp, old_but S.hL k g.old, tabs_but S.tabs0 S.hL k g.tabs, kx_but S.xL k g.kx, ⟨_, n₂, fun y e' he => ?_, fun q hq => ?_⟩, fun y c hc => ?_, fun p hp => ?_, fun q hq => ?_⟩
    · have up : ∀ v d as, Rds h v d as → (∀ a ∈ as, ∀ p ∈ ms, a ≠ p.1) → Rds h' v d as := fun _ _ _ r _ => rds_but n k r
      by_cases hh : y = x
      · subst hh
        simp at he; subst he
        exact ⟨v, by unfold Holds; rw [hcl]; simp, r⟩
      · have hyx : (y == x) = false := by simpa using hh
        rw [List.lookup_cons, hyx] at he
        obtain ⟨v', e1, e2⟩ := rb y e' he
        refine ⟨v', ?_, e2.up up⟩
        unfold Holds at e1 ⊢
        cases hc : cl.lookup y with
        | none => rw [hc] at e1; simp [hh, e1]
        | some c =>
          rw [hc] at e1
          obtain ⟨o, ho, hd⟩ := e1
          exact ⟨o, k _ _ (Nat.ne_of_gt (S.hc _ _ hc)) ho, hd⟩
    · obtain ⟨y, w, h1, h2⟩ := hy q hq
      by_cases hh : y = x
      · exact ⟨y, v, h1, by simp [hh]⟩
      · exact ⟨y, w, h1, by simp [hh, h2]⟩
    · obtain ⟨v', o, ho, hd⟩ := g.cells y c hc
      exact ⟨v', o, k _ _ (Nat.ne_of_gt (S.hc _ _ hc)) ho, hd⟩
    · obtain ⟨items, n', e1, r1, f1⟩ := g.muts p hp
      exact ⟨items, n', k _ _ (fun h => listO_dict (h ▸ e1) n) e1, rdsAll_but n k r1, f1⟩
    · obtain ⟨P, f⟩ := g.pile q hq
      refine ⟨pile_but (a := L) (fun h => pile_ns P (h ▸ n)) (fun dx u n1 h => ?_) (fun items r => rdsAll_but n k r) k P, f⟩
      obtain ⟨y, w, h1, h2⟩ := hy q hq
      have := ns_fn (h ▸ n) n1 y
      rw [h2, if_neg h1] at this
      cases this
  · have hLc : h0.get? c = none := S.hcn _ _ hcl
    refine ⟨kp_but hLc k g.kp, old_but hLc k g.old, tabs_but S.tabs0 hLc k g.tabs, kx_but (S.xc _ _ hcl) k g.kx, ⟨m, n.at' fun o e => k _ _ (Nat.ne_of_lt (S.hc _ _ hcl)) e, fun y e' he => ?_, hy⟩, fun y c' hc' => ?_, fun p hp => ?_, fun q hq => ?_⟩
    · have up : ∀ v d as, Rds h v d as → (∀ a ∈ as, ∀ p ∈ ms, a ≠ p.1) → Rds h' v d as := fun _ _ _ r _ => rds_cbut hv0 k r
      by_cases hh : y = x
      · subst hh
        simp at he; subst he
        exact ⟨v, by unfold Holds; rw [hcl]; exact hc₂, r⟩
      · have hyx : (y == x) = false := by simpa using hh
        rw [List.lookup_cons, hyx] at he
        obtain ⟨v', e1, e2⟩ := rb y e' he
        refine ⟨v', ?_, e2.up up⟩
        unfold Holds at e1 ⊢
        cases hc : cl.lookup y with
        | none => rw [hc] at e1; exact e1
        | some c' =>
          rw [hc] at e1
          obtain ⟨o, ho, hd⟩ := e1
          exact ⟨o, k _ _ (fun h' => hh (S.apart _ _ _ hc (h' ▸ hcl))) ho, hd⟩
    · obtain ⟨v', o, ho, hd⟩ := g.cells y c' hc'
      by_cases hh : c' = c
      · subst hh; exact ⟨_, hc₂⟩
      · exact ⟨v', o, k _ _ hh ho, hd⟩
    · obtain ⟨items, n', e1, r1, f1⟩ := g.muts p hp
      exact ⟨items, n', k _ _ (fun h => listO_cell (h ▸ e1) hv0) e1, rdsAll_cbut hv0 k r1, f1⟩
    · obtain ⟨P, f⟩ := g.pile q hq
      exact ⟨pile_but (a := c) (fun h => pile_cell P (h ▸ hv0)) (fun dx u n1 h => ns_cell n1.ns (h ▸ hv0)) (fun items r => rdsAll_cbut hv0 k r) k P, f⟩
theorem wp_storeR {M : Model} {A : Around} {E : Value → Shared → Prop} {s : Shared} {env : Env} {x : Str} {v : Value} {Q : Unit → Shared → Prop} (g : LF h0 L cl X hb bs ms pl s.heap)
    (hL : env.locals = L) (hk : env.scope.kind = .function) (hx : NK env cl x)
    (next : ∀ h' tk, ST L cl x v s.heap h' → Q () { s with heap := h', toks := tk }) : wpAny M A (storeName env x v) Q E s := by
  subst hL
  have hp : (env.scope.kind == .class || (env.scope.kind == .module && env.locals != env.globals)) = false := by rw [hk]; rfl
  obtain ⟨m, n, _⟩ := g.fr
  rcases hx with ⟨hx, hcl⟩ | ⟨c, hx, hcl, hce⟩
  · exact wpAny_storeName_local hx n (fun h₂ n₂ s₂ => next h₂ _ (.inl ⟨m, hcl, n, n₂, s₂.extBut⟩)) hp
  · obtain ⟨v0, hv0⟩ := g.cells x c hcl
    exact wpAny_storeName_cell hk hx hce hv0 fun h₂ hc₂ s₂ => next h₂ s.toks (.inr ⟨c, v0, hcl, hv0, hc₂, s₂.extBut⟩)
/- a name of the frame gets the value v -/
theorem wp_storeL {M : Model} {A : Around} {E : Value → Shared → Prop} {s : Shared} {env : Env} {x : Str} {v : Value} {e : Ent} {Q : Unit → Shared → Prop} (S : LS h0 L cl X ms pl) (g : LF h0 L cl X hb bs ms pl s.heap) (r : EntOk ms s.heap v e)
    (hL : env.locals = L) (hk : env.scope.kind = .function) (hx : NK env cl x)
    (next : ∀ h' tk, LF h0 L cl X hb ((x, e) :: bs) ms pl h' → (∀ v d as, Rds s.heap v d as → Rds h' v d as) → Q () { s with heap := h', toks := tk }) : wpAny M A (storeName env x v) Q E s :=
  wp_storeR g hL hk hx fun h' tk t => next h' tk (g.st S t (r.up fun _ _ _ r _ => t.rds r)) fun _ _ _ r => t.rds r
end
end Mine
set_option maxRecDepth 100000
set_option linter.all false
namespace Mine
open PySem PySem.Spec PySem.Calls PyProof.Rows PySem.W
/- how a name is read -/
noncomputable def RK (env : Env) (L : Addr) (cl : List (Str × Addr)) (x : Str) : Prop := (env.kindOf x = some .local ∧ cl.lookup x = none ∧ env.locals = L) ∨ ∃ c, env.kindOf x = some .cell ∧ cl.lookup x = some c ∧ env.cells.lookup x = some c
theorem rds_alloc {h : Heap} {v : Value} {d : PyData} {as : List Addr} (r : Rds h v d as) : ∀ a ∈ as, ∃ o, h.get? a = some o :=
  @Rds.rec h (fun _ _ as _ => ∀ a ∈ as, ∃ o, h.get? a = some o) (fun _ _ as _ => ∀ a ∈ as, ∃ o, h.get? a = some o) (fun _ h => nomatch h) (fun _ _ h => nomatch h) (fun _ _ _ h => nomatch h) (fun _ _ _ h => nomatch h)
    (fun e _ q _ ha => (List.mem_cons.mp ha).elim (fun x => x ▸ ⟨_, e⟩) (q _)) (fun _ _ q => q) (fun _ h => nomatch h) (fun _ _ q q' _ ha => (List.mem_append.mp ha).elim (q _) (q' _)) v d as r
theorem rdsAll_alloc {h : Heap} {vs : List Value} {ds : List PyData} {as : List Addr} (r : RdsAll h vs ds as) : ∀ a ∈ as, ∃ o, h.get? a = some o :=
  RdsAll.ind (C := fun _ _ as => ∀ a ∈ as, ∃ o, h.get? a = some o) (fun _ h => nomatch h) (fun _ _ _ _ _ _ r _ q _ ha => (List.mem_append.mp ha).elim (rds_alloc r _) (q _)) r
section
variable {w : World} {A : Around} {env : Env} {G : Heap → Prop}
variable {h0 : Heap} {L : Addr} {cl : List (Str × Addr)} {X X' : Addr → Prop} {hb : Heap} {bs bs' : List (Str × Ent)} {ms ms' : List (Addr × List PyData)} {pl : Pl} {h h' : Heap}
theorem wp_loadL {M : Model} {E : Value → Shared → Prop} {s : Shared} {x : Str} {e : Ent} {pos : Pos} {Q : Value → Shared → Prop} (g : LF h0 L cl X hb bs ms pl s.heap) (he : bs.lookup x = some e) (hk : env.scope.kind = .function) (hx : RK env L cl x) (hd : (x == ("__debug__" : Str)) = false)
    (hQ : ∀ v, EntOk ms s.heap v e → Q v s) : wpAny M A (eval (.Name x pos) env) Q E s := by
  obtain ⟨m, n, rb, _⟩ := g.fr
  obtain ⟨v, e1, e2⟩ := rb x e he
  unfold Holds at e1
  rcases hx with ⟨hx, hcl, rfl⟩ | ⟨c, hx, hcl, hce⟩
  · rw [hcl] at e1
    exact wpAny_Name (wpAny_loadName_local hk hx n e1 (hQ v e2)) hd
  · rw [hcl] at e1
    exact wpAny_Name (wpAny_loadName_cell hk hx hce e1 (hQ v e2)) hd
theorem EV.nm {x : Str} {pos : Pos} {d : PyData} (hG : ∀ h, G h → LF h0 L cl X hb bs ms pl h) (he : bs.lookup x = some (.d d)) (hk : env.scope.kind = .function) (hx : RK env L cl x) (hd : (x == ("__debug__" : Str)) = false) : EV w A env G false (.Name x pos) d := fun s E g =>
  wp_loadL (hG _ g) he hk hx hd fun v e => by
    obtain ⟨as, r, _⟩ := e
    exact ⟨⟨as, r, ff⟩, keeps_refl _⟩
theorem NV.nm {x : Str} {v : Value} (hG : ∀ h, G h → LF h0 L cl X hb bs ms pl h) (he : bs.lookup x = some (.v v)) (hk : env.scope.kind = .function) (hx : RK env L cl x) (hd : (x == ("__debug__" : Str)) = false) : NV env G x v := fun M A pos s E Q g q =>
  wp_loadL (hG _ g) he hk hx hd fun v' e => by
    have e : v' = v := e
    subst e
    exact q
theorem EV.mt {x : Str} {pos : Pos} {a : Addr} {ds : List PyData} (hG : ∀ h, G h → LF h0 L cl X hb bs ms pl h) (he : bs.lookup x = some (.v (.ref a))) (hm : (a, ds) ∈ ms) (hk : env.scope.kind = .function) (hx : RK env L cl x) (hd : (x == ("__debug__" : Str)) = false) : EV w A env G false (.Name x pos) (.list ds) := fun s E g =>
  wp_loadL (hG _ g) he hk hx hd fun v' e => by
    have e : v' = .ref a := e
    subst e
    obtain ⟨items, n, e1, r, f⟩ := (hG _ g).muts _ hm
    exact ⟨⟨[a], .list e1 r, ff⟩, keeps_refl _⟩
theorem EV.lb {C : Addr} {x : Str} {pos : Pos} {ls : List (Str × PyData)} {d : PyData} (hG : ∀ h, G h → LB C ls h) (he : (x, d) ∈ ls) (hC : env.locals = C) (hk : env.scope.kind = .function) (hx : env.kindOf x = some .local) (hd : (x == ("__debug__" : Str)) = false) : EV w A env G false (.Name x pos) d := fun s E g => by
  obtain ⟨m, n, r⟩ := hG _ g
  obtain ⟨v, as, e1, e2⟩ := r x d he
  subst hC
  exact wpAny_Name (wpAny_loadName_local hk hx n e1 ⟨⟨as, e2, ff⟩, keeps_refl _⟩) hd
theorem NV.gl {x : Str} {v : Value} (S : LS h0 L cl X ms pl) (hG : ∀ h, G h → LF h0 L cl X hb bs ms pl h) (e : Mine.glob.lookup x = some v) (hx : env.kindOf x = some .globalImplicit) (hk : env.scope.kind = .function) (hg : env.globals = mainGlobals) (hd : (x == ("__debug__" : Str)) = false) : NV env G x v :=
  NV.glob (fun h g => (hG h g).base S) e hx hk hg hd
theorem NV.bl {x : Str} {v : Value} (S : LS h0 L cl X ms pl) (hG : ∀ h, G h → LF h0 L cl X hb bs ms pl h) (e : blt.lookup x = some v) (hx : env.kindOf x = some .globalImplicit) (hk : env.scope.kind = .function) (hg : env.globals = mainGlobals) (hb : env.builtins = builtinsNs) (hd : (x == ("__debug__" : Str)) = false) : NV env G x v :=
  NV.built (fun h g => (hG h g).base S) e hx hk hg hb hd
/-! ## changes of the frame's lists -/
theorem LS.reMs (S : LS h0 L cl X ms pl) (e : ms'.map (·.1) = ms.map (·.1)) : LS h0 L cl X ms' pl where
  base := S.base
  defs := S.defs
  tabs0 := S.tabs0
  hL := S.hL
  hcn := S.hcn
  hc := S.hc
  apart := S.apart
  hm := fun p hp => by
    have : p.1 ∈ ms'.map (·.1) := List.mem_map_of_mem hp
    rw [e] at this
    obtain ⟨q, hq, e2⟩ := List.mem_map.mp this
    rw [← e2]; exact S.hm q hq
  nd := by rw [e]; exact S.nd
  hp := S.hp
  xL := S.xL
  xc := S.xc
  xm := fun p hp => by
    have : p.1 ∈ ms'.map (·.1) := List.mem_map_of_mem hp
    rw [e] at this
    obtain ⟨q, hq, e2⟩ := List.mem_map.mp this
    rw [← e2]; exact S.xm q hq
  xp := S.xp
  xt := S.xt
theorem LF.mut {a : Addr} {ds ds' : List PyData} {items : Array Value} {n : Nat} (S : LS h0 L cl X ms pl) (g : LF h0 L cl X hb bs ms pl h) (ha : (a, ds) ∈ ms) (k : KBut a h h') (e : h'.get? a = some (listO items n)) (r : RdsAll h' items.toList ds' []) (f : flatAll ds' = true)
    (hms : ∀ p ∈ ms', p = (a, ds') ∨ (p ∈ ms ∧ p.1 ≠ a)) (hfst : ms'.map (·.1) = ms.map (·.1)) : LF h0 L cl X hb bs ms' pl h' := by
  obtain ⟨it0, n0, e0, r0, _⟩ := g.muts _ ha
  replace e0 : h.get? a = some (listO it0 n0) := e0
  have hle := S.hm _ ha
  refine ⟨kp_but hle k g.kp, old_but hle k g.old, tabs_but S.tabs0 hle k g.tabs, kx_but (S.xm _ ha) k g.kx, ?_, fun x c hc => ?_, fun p hp => ?_, fun q hq => ?_⟩
  · obtain ⟨m, nn, rb, y⟩ := g.fr
    refine ⟨m, nn.at' fun o eo => k _ _ (fun h => listO_dict (h ▸ e0) nn) eo, fun x en hx => ?_, y⟩
    obtain ⟨v, h1, h2⟩ := rb x en hx
    refine ⟨v, ?_, ?_⟩
    · unfold Holds at h1 ⊢
      split
      · rename_i c hc
        rw [hc] at h1
        obtain ⟨o, ho, hd⟩ := h1
        exact ⟨o, k _ _ (fun h => listO_cell (h ▸ e0) ⟨o, ho, hd⟩) ho, hd⟩
      · rename_i hc; rw [hc] at h1; exact h1
    · have h3 := h2.up (h' := h') fun v d as rd nd => rds_lbut e0 k rd fun b hb => nd b hb _ ha
      cases en with
      | v w => exact h3
      | d d =>
        obtain ⟨as, rd, nd⟩ := h3
        refine ⟨as, rd, fun b hb p hp => ?_⟩
        have : p.1 ∈ ms'.map (·.1) := List.mem_map_of_mem hp
        rw [hfst] at this
        obtain ⟨q, hq, e2⟩ := List.mem_map.mp this
        rw [← e2]; exact nd b hb q hq
  · obtain ⟨v, o, ho, hd⟩ := g.cells x c hc
    exact ⟨v, o, k _ _ (fun h => listO_cell (h ▸ e0) ⟨o, ho, hd⟩) ho, hd⟩
  · rcases hms p hp with rfl | ⟨hp, hne⟩
    · exact ⟨items, n, e, r, f⟩
    · obtain ⟨it, n1, e1, r1, f1⟩ := g.muts p hp
      exact ⟨it, n1, k _ _ hne e1, rdsAll_lbut e0 k r1 (fun _ h => nomatch h), f1⟩
  · obtain ⟨P, fp⟩ := g.pile q hq
    exact ⟨pile_but (fun h => pile_list P (h ▸ e0)) (fun dx u n1 h => listO_dict (h ▸ e0) n1.ns) (fun it r => rdsAll_lbut e0 k r (fun _ h => nomatch h)) k P, fp⟩
theorem LF.pmut {p : Addr} {st st' : Int} {ps ps' : List PyData} (S : LS h0 L cl X ms (some (p, st, ps))) (g : LF h0 L cl X hb bs ms (some (p, st, ps)) h) (k : KBut p h h') (P' : PileAt h' p st' ps') (f : flatAll ps' = true) : LF h0 L cl X hb bs ms (some (p, st', ps')) h' := by
  have hle : h0.get? p = none := S.hp _ rfl
  obtain ⟨P, _⟩ := g.pile _ rfl
  obtain ⟨o, items, n, dx, u, ho, hc, hdd, _⟩ := id P
  refine ⟨kp_but hle k g.kp, old_but hle k g.old, tabs_but S.tabs0 hle k g.tabs, kx_but (S.xp _ rfl) k g.kx, ?_, fun x c hc => ?_, fun q hq => ?_, fun q hq => ?_⟩
  · obtain ⟨m, nn, rb, y⟩ := g.fr
    refine ⟨m, nn.at' fun o eo => k _ _ (fun h => pile_ns (h ▸ P) nn) eo, fun x en hx => ?_, fun _ _ => y _ rfl⟩
    obtain ⟨v, h1, h2⟩ := rb x en hx
    refine ⟨v, ?_, h2.up fun v d as rd nd => rds_pbut ho hc k rd⟩
    unfold Holds at h1 ⊢
    split
    · rename_i c hc
      rw [hc] at h1
      obtain ⟨o, ho, hd⟩ := h1
      exact ⟨o, k _ _ (fun h => pile_cell (h ▸ P) ⟨o, ho, hd⟩) ho, hd⟩
    · rename_i hc; rw [hc] at h1; exact h1
  · obtain ⟨v, o, ho, hd⟩ := g.cells x c hc
    exact ⟨v, o, k _ _ (fun h => pile_cell (h ▸ P) ⟨o, ho, hd⟩) ho, hd⟩
  · obtain ⟨it, n1, e1, r1, f1⟩ := g.muts q hq
    exact ⟨it, n1, k _ _ (fun h => pile_list (h ▸ P) e1) e1, rdsAll_pbut ho hc k r1, f1⟩
  · cases hq; exact ⟨P', f⟩
theorem LF.reX (g : LF h0 L cl X hb bs ms pl h) : LF h0 L cl X' h bs ms pl h := { kp := g.kp, old := g.old, tabs := g.tabs, kx := fun _ _ _ e => e, fr := g.fr, cells := g.cells, muts := g.muts, pile := g.pile }
theorem LF.addMut {a : Addr} {ds : List PyData} {items : Array Value} {n : Nat} (g : LF h0 L cl X hb bs ms pl h) (k : Kf h h') (hn : h.get? a = none) (e : h'.get? a = some (listO items n)) (r : RdsAll h' items.toList ds []) (f : flatAll ds = true) : LF h0 L cl X hb bs ((a, ds) :: ms) pl h' := by
  have g' := g.kf k
  refine { kp := g'.kp, old := g'.old, tabs := g'.tabs, kx := g'.kx, fr := ?_, cells := g'.cells, muts := ?_, pile := g'.pile }
  · obtain ⟨m, nn, rb, y⟩ := g.fr
    refine ⟨m, ns_kp (.of_keep k) nn, fun x en hx => ?_, y⟩
    obtain ⟨v, h1, h2⟩ := rb x en hx
    refine ⟨v, h1.kp (.of_keep k), ?_⟩
    cases en with
    | v w => exact h2
    | d d =>
      obtain ⟨as, rd, nd⟩ := h2
      refine ⟨as, rds_kp (.of_keep k) rd, fun b hb p hp => ?_⟩
      rcases List.mem_cons.mp hp with rfl | hp
      · rintro rfl
        obtain ⟨o, ho⟩ := rds_alloc rd _ hb
        rw [hn] at ho; cases ho
      · exact nd b hb p hp
  · intro p hp
    rcases List.mem_cons.mp hp with rfl | hp
    · exact ⟨items, n, e, r, f⟩
    · exact g'.muts p hp
theorem LF.freeze {a : Addr} {x : Str} {ds : List PyData} (g : LF h0 L cl X hb bs ms pl h) (hx : bs.lookup x = some (.v (.ref a))) (ha : (a, ds) ∈ ms) (hms : ∀ p ∈ ms', p ∈ ms ∧ p.1 ≠ a) : LF h0 L cl X hb ((x, .d (.list ds)) :: bs) ms' pl h := by
  refine { kp := g.kp, old := g.old, tabs := g.tabs, kx := g.kx, fr := ?_, cells := g.cells, muts := fun p hp => g.muts p (hms p hp).1, pile := g.pile }
  obtain ⟨m, nn, rb, y⟩ := g.fr
  refine ⟨m, nn, fun z en hz => ?_, y⟩
  have old : bs.lookup z = some en → ∃ v, Holds cl m h z v ∧ EntOk ms' h v en := fun hz => by
    obtain ⟨v, h1, h2⟩ := rb z en hz
    refine ⟨v, h1, ?_⟩
    cases en with
    | v w => exact h2
    | d d =>
      obtain ⟨as, rd, nd⟩ := h2
      exact ⟨as, rd, fun b hb p hp => nd b hb p (hms p hp).1⟩
  by_cases h : z = x
  · subst h
    simp at hz; subst hz
    obtain ⟨v, h1, h2⟩ := rb z _ hx
    have h2 : v = .ref a := h2
    subst h2
    obtain ⟨it, n1, e1, r1, f1⟩ := g.muts _ ha
    refine ⟨_, h1, [a], .list e1 r1, fun b hb p hp => ?_⟩
    simp at hb; subst hb
    exact Ne.symm (hms p hp).2
  · have hzx : (z == x) = false := by simpa using h
    rw [List.lookup_cons, hzx] at hz
    exact old hz
theorem LF.newPile {p : Addr} {st : Int} (g : LF h0 L cl X hb bs ms none h) (k : Kf h h') (P : PileAt h' p st []) {y : Str} {e : Ent} (hy : bs.lookup y = some e) (hcl : cl.lookup y = none) (hne : y ≠ "_initial_size") : LF h0 L cl X hb bs ms (some (p, st, [])) h' := by
  have g' := g.kf k
  refine { kp := g'.kp, old := g'.old, tabs := g'.tabs, kx := g'.kx, fr := ?_, cells := g'.cells, muts := g'.muts, pile := fun q hq => by cases hq; exact ⟨P, rfl⟩ }
  obtain ⟨m, nn, rb, _⟩ := g'.fr
  refine ⟨m, nn, rb, fun _ _ => ?_⟩
  obtain ⟨v, h1, _⟩ := rb y e hy
  unfold Holds at h1
  rw [hcl] at h1
  exact ⟨y, v, hne, h1⟩
end
end Mine
set_option maxRecDepth 100000
set_option linter.all false
namespace Mine
open PySem PySem.Spec PySem.Calls PyProof.Rows PySem.W
section
variable {w : World} {A : Around} {env : Env} {G : Heap → Prop}
theorem compU {pos2 : Pos} {u : Value → Sem Unit} {s : Shared} {E : Value → Shared → Prop} {Q : Value → Shared → Prop} (g : G s.heap) {elt target iter : Expr} {ifs : List Expr} {scope : Scope} {cl : List (Str × Addr)} {pos : Pos} {xs : List PyData} (hm : Mono G) (hsrc : IT w A env G iter xs)
    (hclos : closureFor scope env = pure cl) (hcell : ∀ y ∈ scope.names, y.2 ≠ .cell) (hkind : scope.kind = .function) (hnames : ∀ y ∈ scope.names, y.2 = .local → scope.names.lookup y.1 = some .local)
    (bs : PyData → List (Str × PyData)) (hasg : ∀ C d, d ∈ xs → Asg w A (compEnvC scope cl C env) target d (bs d))
    (p : PyData → Bool) (f : PyData → PyData)
    (ht : ∀ C d, d ∈ xs → TVs w A (compEnvC scope cl C env) (fun h => G h ∧ LB C (bs d) h) ifs (p d))
    (he : ∀ C d, d ∈ xs → p d = true → ∃ fl, EV w A (compEnvC scope cl C env) (fun h => G h ∧ LB C (bs d) h) fl elt (f d))
    (hfl : ∀ d ∈ xs, p d = true → flat (f d) = true) (hsz : xs.length ≤ sizeLine)
    (hs : ∀ x, foldedSetIterable iter env x = pure x)
    (hu : ∀ D C h' tk ys n m, s.heap.get? D = none → s.heap.get? C = none → D ≠ C → h'.get? D = some (listO ys n) → RdsAll h' ys.toList ((xs.filter p).map f) [] → h'.Ns C m → Kf s.heap h' →
      wpAny (model thePr w) A (u (.ref D)) (fun _ s'' => ∃ m, s''.heap.Ns C m ∧ ∀ h'', Heap.SameBut C s''.heap h'' → Q .none { s'' with heap := h'' }) E { s with heap := h', toks := tk }) :
    wpAny (model thePr w) A (comprehension (.ListComp elt [⟨target, iter, ifs, 0⟩] scope pos) scope env pos2 (newList []) false (eval iter env) (some u)) Q E s := by
  refine wpAny_comprehension_free (use := some u) rfl hs hclos hkind hnames ?_
  refine hsrc s E _ g fun s₁ s₂ I fp wr P St k₁ k₂ src st₀ hfp => ?_
  refine wpAny_newObj_type (wpAny_newFunctionEnv hcell (by intro y hy; simp at hy) (fun h₁ hns₁ hsb₁ => ?_) hkind)
  dsimp only at hns₁ hsb₁ ⊢
  generalize hH2 : s₂.heap.push { cls := .type "list", dict := none, data := .seq ([] : List Value).toArray } = H2 at hns₁ hsb₁ ⊢
  have hC : H2.objs.size = s₂.heap.objs.size + 1 := by rw [← hH2, Heap.size_push]
  have hDC : s₂.heap.objs.size ≠ H2.objs.size := by rw [hC]; exact Nat.ne_of_lt (Nat.lt_succ_self _)
  have below : ∀ b, b < s₂.heap.objs.size → b ≠ H2.objs.size ∧ b ≠ s₂.heap.objs.size := fun b hb => ⟨by rw [hC]; exact Nat.ne_of_lt (Nat.lt_succ_of_lt hb), Nat.ne_of_lt hb⟩
  have hDf : s₂.heap.objs.size ∉ fp := fun hm => Nat.lt_irrefl _ (hfp _ hm)
  have hCf : H2.objs.size ∉ fp := fun hm => by have := hfp _ hm; rw [hC] at this; exact Nat.lt_irrefl _ (Nat.lt_of_succ_lt this)
  have hDw : s₂.heap.objs.size ∉ wr := fun h => hDf (src.walks.sub _ h)
  have hCw : H2.objs.size ∉ wr := fun h => hCf (src.walks.sub _ h)
  have old : ∀ b o, s₂.heap.get? b = some o → h₁.get? b = some o := fun b o e => hsb₁.extBut b o (below b (Heap.lt_size e)).1 (Heap.get?_push_of_some _ (hH2 ▸ Heap.get?_push_of_some _ e))
  have hacc : h₁.get? s₂.heap.objs.size = some (listO #[] 0) := hsb₁.extBut _ _ hDC (Heap.get?_push_of_some _ (hH2 ▸ Heap.get?_push_size _ rfl))
  have hst₁ : St 0 h₁ := src.walks.frame _ _ _ st₀ fun b _ o e => old b o e
  have g₁ : G s₁.heap := hm _ _ (kf_of k₁) g
  -- what stood in s₁ is none of C, D, wr
  have off : ∀ b o, s₁.heap.get? b = some o → b ≠ H2.objs.size ∧ b ≠ s₂.heap.objs.size ∧ b ∉ wr := fun b o e =>
    ⟨(below b (Heap.lt_size (keeps_get k₂ e))).1, (below b (Heap.lt_size (keeps_get k₂ e))).2, fun hb => by rw [src.new b hb] at e; cases e⟩
  have old₁ : ∀ b o, s₁.heap.get? b = some o → h₁.get? b = some o := fun b o e => old b o (keeps_get k₂ e)
  have loop : ∀ s₃ : Shared, s₃ = { s₂ with heap := h₁, toks := s₂.toks + ([] : List (Str × Value)).length } →
      codeAny (model thePr w) A (.compLoop (.ListComp elt [⟨target, iter, ifs, 0⟩] scope pos) 0 (.ref I) (.ref s₂.heap.objs.size) (compEnvC scope cl H2.objs.size env))
        (compPost (model thePr w) A E (some u) Q (.ref s₂.heap.objs.size) H2.objs.size) s₃ := by
    rintro s₃ rfl
    refine compLoop (fun k s' => ∃ H tk m ys n i, s' = { s₂ with heap := H, toks := tk } ∧ i ≤ xs.length ∧ k = xs.length + 1 - i ∧ St i H ∧ H.get? s₂.heap.objs.size = some (listO ys n) ∧ RdsAll H ys.toList (((xs.take i).filter p).map f) [] ∧ H.Ns H2.objs.size m ∧
        (∀ b o, s₁.heap.get? b = some o → H.get? b = some o)) ?_ (xs.length + 1) ⟨h₁, _, _, #[], 0, 0, rfl, Nat.zero_le _, rfl, hst₁, hacc, .nil, hns₁, old₁⟩
    rintro k s' ⟨H, tk, m, ys, n, i, rfl, hi, rfl, hst, hD, hys, hn, hk⟩
    by_cases hlt : i < xs.length
    · refine src.walks.item i _ _ _ hlt hst fun v h₂ tk₂ hPv hst₂ hk₂ => ?_
      obtain ⟨d, hd⟩ : ∃ d, xs[i]? = some d := ⟨_, List.getElem?_eq_getElem hlt⟩
      have hdm : d ∈ xs := List.mem_of_getElem? hd
      obtain ⟨as, hv⟩ := src.item i v hPv d hd
      have kk₂ : ∀ b o, s₁.heap.get? b = some o → h₂.get? b = some o := fun b o e => hk₂ b o (off b o e).2.2 (hk b o e)
      refine src.own (i + 1) _ _ _ _ _ hst₂ ?_
      refine hasg H2.objs.size d hdm _ _ _ v as m (rds_kp (.of_keep kk₂) hv) (hn.at' fun o e => hk₂ _ o hCw e) fun h₃ tk₃ hb₃ hk₃ => ?_
      have kk₃ : ∀ b o, s₁.heap.get? b = some o → h₃.get? b = some o := fun b o e => hk₃ b o (off b o e).1 (kk₂ b o e)
      have hst₃ : St (i + 1) h₃ := src.walks.frame _ _ _ hst₂ fun b hb o e => hk₃ b o (fun h => hCf (by rw [show H2.objs.size = b from h.symm]; exact hb)) e
      have hD₂ : h₂.get? s₂.heap.objs.size = some (listO ys n) := hk₂ _ _ hDw hD
      have hD₃ : h₃.get? s₂.heap.objs.size = some (listO ys n) := hk₃ _ _ hDC hD₂
      have hys₃ : RdsAll h₃ ys.toList (((xs.take i).filter p).map f) [] := by
        obtain ⟨m', n', _⟩ := id hb₃
        have w1 : RdsAll h₂ ys.toList (((xs.take i).filter p).map f) [] := by
          exact rdsAll_off (S := wr) (fun b hb => src.noseq i H b hst hb) (fun b o hb e => hk₂ b o hb e) hys
        exact rdsAll_but (hn.at' fun o e => hk₂ _ o hCw e) hk₃ w1
      have g₃ : G h₃ := hm _ _ kk₃ g₁
      have htake : xs.take (i + 1) = xs.take i ++ [d] := by rw [List.take_succ, hd]; rfl
      refine wpAny_mono (ht _ d hdm _ _ ⟨g₃, hb₃⟩) (fun ok s₄ h₄ => ?_) fun _ _ e => e
      obtain ⟨rfl, h₄, tk₄, rfl, kk₄⟩ := h₄
      have hst₄ : St (i + 1) h₄ := src.walks.frame _ _ _ hst₃ fun b _ o e => kk₄ b o e
      have hn₄ : ∃ m', h₄.Ns H2.objs.size m' := by obtain ⟨m', n', _⟩ := hb₃; exact ⟨m', ns_kp (.of_keep kk₄) n'⟩
      cases hp : p d with
      | false =>
        simp only [Bool.false_eq_true, if_false]
        obtain ⟨m', n'⟩ := hn₄
        refine ⟨xs.length + 1 - (i + 1), by omega, h₄, tk₄, m', ys, n, i + 1, rfl, hlt, rfl, hst₄, kk₄ _ _ hD₃, ?_, n', fun b o e => kk₄ b o (kk₃ b o e)⟩
        rw [htake, List.filter_append]
        simpa [hp] using rdsAll_kp (.of_keep kk₄) hys₃
      | true =>
        simp only [if_true]
        obtain ⟨fl, hev⟩ := he H2.objs.size d hdm hp
        refine wpAny_mono (hev _ _ ⟨hm _ _ kk₄ g₃, hb₃.kp (.of_keep kk₄)⟩) (fun y s₅ h₅ => ?_) fun _ _ e => e
        obtain ⟨⟨as', ry, _⟩, h₅, tk₅, rfl, kk₅⟩ := h₅
        have := rds_flat ry (hfl d hdm hp)
        subst this
        have hD₅ : h₅.get? s₂.heap.objs.size = some (listO ys n) := kk₅ _ _ (kk₄ _ _ hD₃)
        have hys₅ := rdsAll_kp (.of_keep kk₅) (rdsAll_kp (.of_keep kk₄) hys₃)
        have hlen : ys.size ≤ sizeLine := by
          have e1 := readsAll_length hys₅
          have e2 : ((xs.take i).filter p).length ≤ (xs.take i).length := List.length_filter_le _ _
          rw [List.length_map, Array.length_toList] at e1
          rw [List.length_take] at e2
          omega
        refine wpAny_list_append_plain (hsz := hlen) (l := s₂.heap.objs.size) (items := ys) ⟨n, hD₅⟩ fun h₆ hl₆ hs₆ => ?_
        obtain ⟨n₆, hl₆⟩ := hl₆
        obtain ⟨m', n'⟩ := hn₄
        have keep₆ : ∀ b o, b ≠ s₂.heap.objs.size → h₅.get? b = some o → h₆.get? b = some o := hs₆.extBut
        refine ⟨xs.length + 1 - (i + 1), by omega, h₆, tk₅, m', ys.push y, n₆, i + 1, rfl, hlt, rfl, ?_, hl₆, ?_, ?_, fun b o e => keep₆ b o (off b o e).2.1 (kk₅ b o (kk₄ b o (kk₃ b o e)))⟩
        · exact src.walks.frame _ _ h₆ hst₄ fun b hb o e => keep₆ b o (fun h => hDf (h ▸ hb)) (kk₅ b o e)
        · rw [htake, List.filter_append, List.map_append]
          simp only [Array.toList_push]
          have hy6 : RdsAll h₅ (ys.toList ++ [y]) (((xs.take i).filter p).map f ++ [f d]) [] := rdsAll_snoc ry hys₅
          have : RdsAll h₆ (ys.toList ++ [y]) (((xs.take i).filter p).map f ++ [f d]) [] := by
            refine rdsAll_flatOff (D := s₂.heap.objs.size) hy6 ?_ ⟨_, _, hD₅⟩ keep₆
            refine flatAll_of fun q hq => ?_
            rcases List.mem_append.mp hq with hq | hq
            · obtain ⟨r, hr, rfl⟩ := List.mem_map.mp hq
              have := List.mem_filter.mp hr
              exact hfl r (List.mem_of_mem_take this.1) this.2
            · simp at hq; subst hq; exact hfl d hdm hp
          simpa [hp] using this
        · exact (ns_kp (.of_keep kk₅) n').at' fun o e => keep₆ _ o (Ne.symm hDC) e
    · have hin : i = xs.length := by omega
      subst hin
      refine src.walks.done _ _ _ hst fun h₂ tk₂ hk₂ => ?_
      have hfin : RdsAll h₂ ys.toList ((xs.filter p).map f) [] := by
        have := rdsAll_off (S := wr) (fun b hb => src.noseq _ H b hst hb) (fun b o hb e => hk₂ b o hb e) hys
        rwa [List.take_length] at this
      obtain ⟨h1', tk1', rfl, kk1⟩ := k₁
      obtain ⟨h2', tk2', rfl, kk2⟩ := k₂
      refine hu _ _ h₂ tk₂ ys n m ?_ ?_ hDC (hk₂ _ _ hDw hD) hfin (hn.at' fun o e => hk₂ _ o hCw e) fun b o e => hk₂ b o (off b o (kk1 b o e)).2.2 (hk b o (kk1 b o e))
      · exact none_of_keeps (s := s) (s' := { s with heap := h2', toks := tk2' }) ⟨h2', tk2', rfl, fun b o e => kk2 b o (kk1 b o e)⟩ (fresh_size _)
      · exact none_of_keeps (s := s) (s' := { s with heap := h2', toks := tk2' }) ⟨h2', tk2', rfl, fun b o e => kk2 b o (kk1 b o e)⟩ (fresh_ge (by rw [hC]; exact Nat.le_succ _))
  exact codeAny_compStart_list (loop _ rfl) (src.walks.self 0 _ _ _ hst₁ (loop _ rfl))
end
/- the frame, its own facts alone -/
structure LS0 (h0 : Heap) (L : Addr) (cl : List (Str × Addr)) : Prop where
  base : Base h0
  defs : Defs h0
  tabs0 : Tabs0 h0
  hL : h0.get? L = none
  hcn : ∀ x c, cl.lookup x = some c → h0.get? c = none
  hc : ∀ x c, cl.lookup x = some c → L < c
  apart : ∀ x y c, cl.lookup x = some c → cl.lookup y = some c → x = y
noncomputable def XS (L : Addr) (cl : List (Str × Addr)) (as : List Addr) : Addr → Prop := fun b => b = L ∨ (∃ x, cl.lookup x = some b) ∨ b = 116 ∨ b = 123 ∨ b ∈ as
theorem LS0.ls {h0 : Heap} {L : Addr} {cl : List (Str × Addr)} {ms : List (Addr × List PyData)} {pl : Pl} {as : List Addr} (S : LS0 h0 L cl) (hm : ∀ p ∈ ms, h0.get? p.1 = none ∧ p.1 ∈ as) (nd : (ms.map (·.1)).Nodup) (hp : ∀ q, pl = some q → h0.get? q.1 = none ∧ q.1 ∈ as) : LS h0 L cl (XS L cl as) ms pl :=
  ⟨S.base, S.defs, S.tabs0, S.hL, S.hcn, S.hc, S.apart, fun p h => (hm p h).1, nd, fun q h => (hp q h).1, .inl rfl, fun x c h => .inr (.inl ⟨x, h⟩), fun p h => .inr (.inr (.inr (.inr (hm p h).2))), fun q h => .inr (.inr (.inr (.inr (hp q h).2))), .inr (.inr (.inl rfl)), .inr (.inr (.inr (.inl rfl)))⟩
section
variable {w : World} {A : Around} {env : Env} {s : Shared} {E : Value → Shared → Prop} {Q : Flow → Shared → Prop}
variable {h0 : Heap} {L : Addr} {cl : List (Str × Addr)} {X : Addr → Prop} {hb : Heap} {bs : List (Str × Ent)} {ms : List (Addr × List PyData)} {pl : Pl}
/- x = value -/
theorem st_asg {x : Str} {p' pos : Pos} {value : Expr} {rest : List Stmt} {f : Bool} {d : PyData} (S : LS h0 L cl X ms pl) (g : LF h0 L cl X hb bs ms pl s.heap) (hL : env.locals = L) (hk : env.scope.kind = .function) (hx : NK env cl x)
    (hev : EV w A env (LF h0 L cl X hb bs ms pl) f value d) (hf : f = true ∨ flat d = true)
    (hs : swapsWith value (some (.Name x p')) pos.line env = pure false)
    (next : ∀ h' tk, LF h0 L cl X hb ((x, .d d) :: bs) ms pl h' → wpAny (model thePr w) A (execs rest env) Q E { s with heap := h', toks := tk }) :
    wpAny (model thePr w) A (execs (.Assign [.Name x p'] value pos :: rest) env) Q E s := by
  refine wpAny_execs_cons (wpAny_Assign_Name (ev_goNK (hev s E g) fun v as h₁ tk₁ r nf k₁ => ?_) hs)
  refine wp_storeL S (g.kf k₁) (e := .d d) ⟨as, r, fun a ha p hp => ?_⟩ hL hk hx fun h' tk g' _ => next h' tk g'
  rcases hf with rfl | hf
  · obtain ⟨it, n, e, _⟩ := g.muts p hp
    rintro rfl
    rw [nf rfl _ ha] at e; cases e
  · rw [rds_flat r hf] at ha; cases ha
/- x = [..], x a name of the frame's own -/
theorem st_comp {x : Str} {p' apos : Pos} {elt target iter : Expr} {ifs : List Expr} {scope : Scope} {cl' : List (Str × Addr)} {pos : Pos} {rest : List Stmt} {xs : List PyData} (S : LS h0 L cl X ms pl) (g : LF h0 L cl X hb bs ms pl s.heap) (hL : env.locals = L) (hk : env.scope.kind = .function) (hx : NK env cl x)
    (hsw : swapsWith (.ListComp elt [⟨target, iter, ifs, 0⟩] scope pos) (some (.Name x p')) apos.line env = pure true)
    (hsrc : IT w A env (LF h0 L cl X hb bs ms pl) iter xs)
    (hclos : closureFor scope env = pure cl') (hcell : ∀ y ∈ scope.names, y.2 ≠ .cell) (hkind : scope.kind = .function) (hnames : ∀ y ∈ scope.names, y.2 = .local → scope.names.lookup y.1 = some .local)
    (ls : PyData → List (Str × PyData)) (hasg : ∀ C d, d ∈ xs → Asg w A (compEnvC scope cl' C env) target d (ls d))
    (p : PyData → Bool) (f : PyData → PyData)
    (ht : ∀ C d, d ∈ xs → TVs w A (compEnvC scope cl' C env) (fun h => LF h0 L cl X hb bs ms pl h ∧ LB C (ls d) h) ifs (p d))
    (he : ∀ C d, d ∈ xs → p d = true → ∃ fl, EV w A (compEnvC scope cl' C env) (fun h => LF h0 L cl X hb bs ms pl h ∧ LB C (ls d) h) fl elt (f d))
    (hfl : ∀ d ∈ xs, p d = true → flat (f d) = true) (hsz : xs.length ≤ sizeLine)
    (hs : ∀ x, foldedSetIterable iter env x = pure x)
    (next : ∀ h' tk, LF h0 L cl X hb ((x, .d (.list ((xs.filter p).map f))) :: bs) ms pl h' → wpAny (model thePr w) A (execs rest env) Q E { s with heap := h', toks := tk }) :
    wpAny (model thePr w) A (execs (.Assign [.Name x p'] (.ListComp elt [⟨target, iter, ifs, 0⟩] scope pos) apos :: rest) env) Q E s := by
  refine wpAny_execs_cons ?_
  rw [exec_Assign_Name_used _ _ _ _ hsw]
  refine wpAny_bind (wpAny_standAt (wpAny_bind ?_))
  show wpAny _ A (do let _ ← comprehension (.ListComp elt [⟨target, iter, ifs, 0⟩] scope pos) scope env _ (newList []) false (eval iter env) (some (assign (.Name x p') env))) _ _ s
  have key := compU (pos2 := firstIterPos [⟨target, iter, ifs, 0⟩] pos) (w := w) (A := A) (env := env) (u := assign (.Name x p') env) (E := E) (Q := fun _ s' => wpAny (model thePr w) A (execs rest env) Q E s') (G := LF h0 L cl X hb bs ms pl) g (elt := elt) (target := target) (iter := iter) (ifs := ifs) (scope := scope) (pos := pos) mono_LF hsrc hclos hcell hkind hnames ls hasg p f ht he hfl hsz hs
  refine wpAny_bind (wpAny_mono (key fun D C h' tk ys n m hD hC hDC hlD hrd hnC kf => ?_) (fun _ s' hq => wpAny_pure (wpAny_pure hq)) fun _ _ e => e)
  have g' := g.kf kf
  refine wpAny_assign_Name (wp_storeR g' hL hk hx fun h₂ tk₂ t => ?_)
  obtain ⟨mL, nL, _⟩ := g.fr
  have nL' := ns_kp (.of_keep kf) nL
  have hCL : C ≠ L := by rintro rfl; obtain ⟨o, _, _, ho, _⟩ := nL; rw [hC] at ho; cases ho
  have hCc : ∀ y c, cl.lookup y = some c → C ≠ c := by
    rintro y c hc rfl
    obtain ⟨v, o, ho, _⟩ := g.cells y _ hc
    rw [hC] at ho; cases ho
  have nC₂ : h₂.Ns C m := by
    rcases t with ⟨_, _, _, _, k⟩ | ⟨c, _, hcl, _, _, k⟩
    · exact hnC.at' fun o e => k _ _ hCL e
    · exact hnC.at' fun o e => k _ _ (hCc _ _ hcl) e
  refine ⟨m, nC₂, fun h₃ sb => ?_⟩
  have t3 : ST L cl x (.ref D) s.heap h₃ := by
    have kb : ∀ a, KBut a h' h₂ → KBut a s.heap h₃ := fun a k b o hb e => sb.extBut b o (by rintro rfl; rw [hC] at e; cases e) (k b o hb (kf _ _ e))
    rcases t with ⟨m', hcl, n1, n2, k⟩ | ⟨c, v0, hcl, c0, c1, k⟩
    · have : mL = m' := ns_uniq nL' n1
      subst this
      exact .inl ⟨mL, hcl, nL, n2.at' fun o e => sb.extBut _ o (Ne.symm hCL) e, kb _ k⟩
    · obtain ⟨v1, hv1⟩ := g.cells x c hcl
      obtain ⟨o, ho, hd⟩ := c1
      exact .inr ⟨c, v1, hcl, hv1, ⟨o, sb.extBut _ _ (Ne.symm (hCc _ _ hcl)) ho, hd⟩, kb _ k⟩
  have hD3 : h₂.get? D = some (listO ys n) := by
    rcases t with ⟨m', hcl, n1, n2, k⟩ | ⟨c, v0, hcl, c0, c1, k⟩
    · exact k _ _ (fun h => listO_dict (h ▸ hlD) n1) hlD
    · exact k _ _ (fun h => listO_cell (h ▸ hlD) c0) hlD
  have r2 : RdsAll h₂ ys.toList ((xs.filter p).map f) [] := by
    rcases t with ⟨m', hcl, n1, n2, k⟩ | ⟨c, v0, hcl, c0, c1, k⟩
    · exact rdsAll_but n1 k hrd
    · exact rdsAll_cbut c0 k hrd
  refine next h₃ tk₂ (g.st S t3 ⟨[D], .list (sb.extBut _ _ hDC hD3) (rdsAll_but nC₂ sb.extBut r2), fun a ha q hq => ?_⟩)
  simp at ha; subst ha
  obtain ⟨it, n', e, _⟩ := g.muts q hq
  rintro rfl
  rw [hD] at e; cases e
end
end Mine
set_option maxRecDepth 100000
set_option linter.all false
namespace Mine
open PySem PySem.Spec PySem.Calls PyProof.Rows PySem.W
noncomputable abbrev lenv (pm : Value) (L : Addr) : Env := callEnvC (fdOf "law" (topSt 19) .none .none pm 200) L 201
noncomputable abbrev lcl (L : Addr) : List (Str × Addr) := [("out", L+14), ("size", L+13), ("ends", L+12), ("mask", L+11), ("costs", L+10), ("able", L+9), ("pieces", L+8), ("sizes", L+7), ("sents", L+6), ("dues", L+5), ("mail", L+4), ("plain", L+3), ("line", L+2), ("start", L+1)]
noncomputable def lawB : List Stmt := dBody (topSt 19)
noncomputable def toldOf (script : List Int) : List Int := (script.take 60).map fun x => x.fmod 2520
noncomputable def startOf (told : List Int) : Int := ((told.length : Int) + told.sum).fmod 4
noncomputable def signL : List (List Nat) := [[97], [46], [10], [13], [45], []]
section
variable {w : World} {A : Around} {s : Shared} {E : Value → Shared → Prop} {Q : Flow → Shared → Prop}
variable {h0 : Heap} {L : Addr} {X : Addr → Prop} {hb : Heap} {bs : List (Str × Ent)} {ms : List (Addr × List PyData)} {pl : Pl} {pm : Value}
theorem walk0 {script : List Int} (hA : Room 6 A) (S : LS h0 L (lcl L) X ms pl) (hz : script.length ≤ 63) (g : LF h0 L (lcl L) X hb [("script", .d (.list (script.map .int)))] ms pl s.heap)
    (next : ∀ h' tk, LF h0 L (lcl L) X hb [("told", .d (.list ((toldOf script).map .int)))] ms pl h' → wpAny (model thePr w) A (execs (lawB.drop 1) (lenv pm L)) Q E { s with heap := h', toks := tk }) :
    wpAny (model thePr w) A (execs lawB (lenv pm L)) Q E s := by
  have h1000 : 1000 ≤ sizeLine := by decide
  refine st_comp (x := "told") (xs := ((script.take 60).map .int)) (ls := fun d => [("x", d)]) (p := fun _ => true) (f := fun d => match d with | .int i => .int (i.fmod 2520) | d => d) S g rfl rfl (.inl ⟨rfl, rfl⟩) rfl ?_ rfl (by decide) rfl (by decide) ?_ ?_ ?_ ?_ ?_ (fun _ => rfl) fun h' tk g' => ?_
  · refine IT.list hA.handled (EV.cast (d := .list (pickD (script.map .int) none (some 60) none)) ?_ (EV.slice mono_LF (EV.nm (fun _ g => g) rfl rfl (.inl ⟨rfl, rfl, rfl⟩) rfl) OE.none (OE.some EV.int) OE.none (by decide) ?_ ?_))
    · rw [pickD_to _ 60 (by decide)]
      simp
    · exact flatAll_of fun d hd => by obtain ⟨i, _, rfl⟩ := List.mem_map.mp hd; rfl
    · rw [List.length_map]; omega
  · intro C d hd
    exact Asg.name rfl rfl
  · intro C d hd; exact TVs.nil
  · intro C d hd _
    obtain ⟨i, _, rfl⟩ := List.mem_map.mp hd
    exact ⟨true, EV.mod (mono_LB mono_LF _ _) (by decide) (EV.lb (fun _ g => g.2) (by simp) rfl rfl rfl rfl) EV.int⟩
  · intro d hd _
    obtain ⟨i, _, rfl⟩ := List.mem_map.mp hd
    rfl
  · rw [List.length_map, List.length_take]; omega
  · refine next h' tk (g'.sub fun q hq => ?_)
    simp only [List.mem_singleton] at hq; subst hq
    have e : (List.filter (fun _ => true) ((script.take 60).map PyData.int)).map (fun d => match d with | .int i => PyData.int (i.fmod 2520) | d => d) = (toldOf script).map .int := by
      rw [List.filter_eq_self.mpr (fun _ _ => rfl), toldOf, List.map_map, List.map_map]; rfl
    rw [← e]; rfl
theorem walk1 {told : List Int} (hA : Room 6 A) (S : LS h0 L (lcl L) X ms pl) (hz : told.length ≤ 60) (g : LF h0 L (lcl L) X hb [("told", .d (.list (told.map .int)))] ms pl s.heap)
    (next : ∀ h' tk, LF h0 L (lcl L) X hb [("signs", .d (.list (signL.map fun l => .str (mkS l)))), ("start", .d (.int (startOf told))), ("told", .d (.list (told.map .int)))] ms pl h' → wpAny (model thePr w) A (execs (lawB.drop 3) (lenv pm L)) Q E { s with heap := h', toks := tk }) :
    wpAny (model thePr w) A (execs (lawB.drop 1) (lenv pm L)) Q E s := by
  refine st_asg (x := "start") (d := .int (startOf told)) (f := true) S g rfl rfl (.inr ⟨_, rfl, rfl, rfl⟩) ?_ (.inl rfl) rfl fun h1 tk1 g1 => ?_
  · exact EV.mod mono_LF (by decide) (EV.add mono_LF (EV.cast (by rw [List.length_map]) (EV.len mono_LF (NV.bl S (fun _ g => g) rfl rfl rfl rfl rfl rfl) (EV.nm (fun _ g => g) rfl rfl (.inl ⟨rfl, rfl, rfl⟩) rfl) (by rw [List.length_map]; omega)))
      (EV.sum mono_LF hA.handled (NV.bl S (fun _ g => g) rfl rfl rfl rfl rfl rfl) (EV.nm (fun _ g => g) rfl rfl (.inl ⟨rfl, rfl, rfl⟩) rfl))) EV.int
  refine st_asg (x := "signs") (d := .list (signL.map fun l => .str (mkS l))) (f := true) S g1 rfl rfl (.inl ⟨rfl, rfl⟩) ?_ (.inl rfl) rfl fun h2 tk2 g2 => next h2 tk2 g2
  refine EV.list (.cons mono_LF ?_ (.cons mono_LF ?_ (.cons mono_LF ?_ (.cons mono_LF ?_ (.cons mono_LF ?_ (.cons mono_LF ?_ .nil)))))) (by decide)
  · exact EV.cast (congrArg PyData.str (show Str.ofString "a" = mkS [97] by decide +kernel)) (EV.str (x := "a"))
  · exact EV.cast (congrArg PyData.str (show Str.ofString "." = mkS [46] by decide +kernel)) (EV.str (x := "."))
  · exact EV.cast (congrArg PyData.str (show Str.ofString "\n" = mkS [10] by decide +kernel)) (EV.str (x := "\n"))
  · exact EV.cast (congrArg PyData.str (show Str.ofString "\r" = mkS [13] by decide +kernel)) (EV.str (x := "\r"))
  · exact EV.cast (congrArg PyData.str (show Str.ofString "-" = mkS [45] by decide +kernel)) (EV.str (x := "-"))
  · exact EV.cast (congrArg PyData.str (show Str.ofString "" = mkS [] by decide +kernel)) (EV.str (x := ""))
end
end Mine
set_option maxRecDepth 100000
set_option linter.all false
namespace Mine
open PySem PySem.Spec PySem.Calls PyProof.Rows PySem.W
theorem rds_flatlist {h : Heap} {v : Value} {ds : List PyData} {as : List Addr} (r : Rds h v (.list ds) as) (f : flatAll ds = true) : ∃ a it n, v = .ref a ∧ as = [a] ∧ h.get? a = some (listO it n) ∧ RdsAll h it.toList ds [] := by
  exact rdsL r fun a it n bs q e r => ⟨a, it, n, rfl, by rw [q, rdsAll_flat r f], e, rdsAll_flat r f ▸ r⟩
section
variable {w : World} {A : Around} {env : Env} {G : Heap → Prop} {s : Shared} {E : Value → Shared → Prop}
/- two new lists in a tuple -/
theorem ev_two (hm : Mono G) {e1 e2 : Expr} {k : Nat} {pos : Pos} {ds1 ds2 : List PyData} {Q : Value → Shared → Prop} (g : G s.heap) (h1 : EV w A env G true e1 (.list ds1)) (h2 : EV w A env G true e2 (.list ds2)) (f1 : flatAll ds1 = true) (f2 : flatAll ds2 = true)
    (hs1 : starEach [e1, e2] env = (false, eval e1 env) :: starEach [e2] env) (hs2 : starEach [e2] env = (false, eval e2 env) :: starEach [] env)
    (hQ : ∀ T a1 a2 it1 n1 it2 n2 h' tk, h'.get? T = some (tupO #[.ref a1, .ref a2] 0) → a1 ≠ a2 → s.heap.get? a1 = none → s.heap.get? a2 = none → h'.get? a1 = some (listO it1 n1) → RdsAll h' it1.toList ds1 [] →
      h'.get? a2 = some (listO it2 n2) → RdsAll h' it2.toList ds2 [] → Kf s.heap h' → Q (.ref T) { s with heap := h', toks := tk }) :
    wpAny (model thePr w) A (eval (.Tuple [e1, e2] k pos) env) Q E s := by
  refine Tuple_ ?_
  rw [hs1]
  show wpAny _ A (spliced ((false, eval e1 env) :: backTo pos (starEach [e2] env))) _ E s
  refine spliced_cons (ev_goNK (h1 s E g) fun v as hp1 tk1 ra na k₁ => ?_)
  rw [hs2]
  show wpAny _ A (spliced ((false, eval e2 env) :: backTo pos (starEach [] env))) _ E _
  refine spliced_cons (ev_goNK (h2 _ E (hm _ _ k₁ g)) fun v2 bs hp2 tk2 rb nb k₂ => ?_)
  refine spliced_nil ?_
  obtain ⟨a1, it1, n1, rfl, rfl, e1', r1⟩ := rds_flatlist ra f1
  obtain ⟨a2, it2, n2, rfl, rfl, e2', r2⟩ := rds_flatlist rb f2
  have na := na rfl a1 (by simp)
  have nb := nb rfl a2 (by simp)
  replace nb : hp1.get? a2 = none := nb
  replace e1' : hp1.get? a1 = some (listO it1 n1) := e1'
  replace e2' : hp2.get? a2 = some (listO it2 n2) := e2'
  replace k₂ : Kf hp1 hp2 := k₂
  have h2le : 2 ≤ sizeLine := by decide
  refine wpAny_newTuple ?_ (by simpa using h2le)
  have kp : ∀ o : Obj, Kf hp2 (hp2.push o) := fun o b o' e => Heap.get?_push_of_some _ e
  refine hQ hp2.objs.size a1 a2 it1 n1 it2 n2 _ tk2 (Heap.get?_push_size _ rfl) (by rintro rfl; rw [e1'] at nb; cases nb) na ?_ (kp _ _ _ (k₂ _ _ e1')) (rdsAll_kp (.of_keep (k₂.trans (kp _))) r1) (kp _ _ _ e2') (rdsAll_kp (.of_keep (kp _)) r2) (Kf.trans k₁ (k₂.trans (kp _)))
  cases e : s.heap.get? a2 with
  | none => rfl
  | some o => rw [k₁ _ _ e] at nb; cases nb
end
section
variable {w : World} {A : Around} {env : Env} {s : Shared} {E : Value → Shared → Prop} {Q : Flow → Shared → Prop}
variable {h0 : Heap} {L : Addr} {cl : List (Str × Addr)} {as : List Addr} {hb : Heap} {bs : List (Str × Ent)} {ms : List (Addr × List PyData)} {pl : Pl}
theorem LF.fresh {X : Addr → Prop} {h : Heap} {a : Addr} (g : LF h0 L cl X hb bs ms pl h) (hn : h.get? a = none) : h0.get? a = none := by
  cases e : h0.get? a with
  | none => rfl
  | some o =>
    obtain ⟨o', e'⟩ := g.old.there a o e
    rw [hn] at e'; cases e'
theorem LF.notM {X : Addr → Prop} {h : Heap} {a : Addr} (g : LF h0 L cl X hb bs ms pl h) (hn : h.get? a = none) : a ∉ ms.map (·.1) := fun hm => by
  obtain ⟨p, hp, rfl⟩ := List.mem_map.mp hm
  obtain ⟨it, n, e, _⟩ := g.muts p hp
  rw [hn] at e; cases e
theorem LS.grow {X : Addr → Prop} {h : Heap} {a : Addr} {ds : List PyData} (S : LS h0 L cl (XS L cl as) ms pl) (g : LF h0 L cl X hb bs ms pl h) (hn : h.get? a = none) : LS h0 L cl (XS L cl (a :: as)) ((a, ds) :: ms) pl where
  base := S.base
  defs := S.defs
  tabs0 := S.tabs0
  hL := S.hL
  hcn := S.hcn
  hc := S.hc
  apart := S.apart
  hm := fun p hp => by
    rcases List.mem_cons.mp hp with rfl | hp
    · exact g.fresh hn
    · exact S.hm p hp
  nd := List.nodup_cons.mpr ⟨g.notM hn, S.nd⟩
  hp := S.hp
  xL := .inl rfl
  xc := fun x c h => .inr (.inl ⟨x, h⟩)
  xm := fun p hp => by
    rcases List.mem_cons.mp hp with rfl | hp
    · exact .inr (.inr (.inr (.inr (by simp))))
    · rcases S.xm p hp with h | h | h | h | h
      · exact .inl h
      · exact .inr (.inl h)
      · exact .inr (.inr (.inl h))
      · exact .inr (.inr (.inr (.inl h)))
      · exact .inr (.inr (.inr (.inr (by simp [h]))))
  xp := fun q hq => by
    rcases S.xp q hq with h | h | h | h | h
    · exact .inl h
    · exact .inr (.inl h)
    · exact .inr (.inr (.inl h))
    · exact .inr (.inr (.inr (.inl h)))
    · exact .inr (.inr (.inr (.inr (by simp [h]))))
  xt := ⟨.inr (.inr (.inl rfl)), .inr (.inr (.inr (.inl rfl)))⟩
/- two new lists, not named yet -/
theorem st_two0 {e1 e2 : Expr} {k : Nat} {pos : Pos} {ds1 ds2 : List PyData} {QQ : Value → Shared → Prop} (S : LS h0 L cl (XS L cl as) ms pl) (g : LF h0 L cl (XS L cl as) hb bs ms pl s.heap)
    (h1 : EV w A env (LF h0 L cl (XS L cl as) hb bs ms pl) true e1 (.list ds1)) (h2 : EV w A env (LF h0 L cl (XS L cl as) hb bs ms pl) true e2 (.list ds2)) (f1 : flatAll ds1 = true) (f2 : flatAll ds2 = true)
    (hs1 : starEach [e1, e2] env = (false, eval e1 env) :: starEach [e2] env) (hs2 : starEach [e2] env = (false, eval e2 env) :: starEach [] env)
    (hQ : ∀ T a1 a2 h' tk, h'.get? T = some (tupO #[.ref a1, .ref a2] 0) → LS h0 L cl (XS L cl (a2 :: a1 :: as)) ((a2, ds2) :: (a1, ds1) :: ms) pl → LF h0 L cl (XS L cl (a2 :: a1 :: as)) h' bs ((a2, ds2) :: (a1, ds1) :: ms) pl h' → a1 ≠ a2 → QQ (.ref T) { s with heap := h', toks := tk }) :
    wpAny (model thePr w) A (eval (.Tuple [e1, e2] k pos) env) QQ E s := by
  refine ev_two mono_LF g h1 h2 f1 f2 hs1 hs2 fun T a1 a2 it1 n1 it2 n2 h' tk hT hne hn1 hn2 e1' r1 e2' r2 kf => ?_
  have S1 := S.grow (ds := ds1) g hn1
  -- the heap but for a2
  have g1 : LF h0 L cl (XS L cl as) hb bs ((a1, ds1) :: ms) pl h' := g.addMut kf hn1 e1' r1 f1
  have S2 : LS h0 L cl (XS L cl (a2 :: a1 :: as)) ((a2, ds2) :: (a1, ds1) :: ms) pl := by
    have := S.grow (ds := ds2) g hn2
    refine ⟨S.base, S.defs, S.tabs0, S.hL, S.hcn, S.hc, S.apart, fun p hp => ?_, ?_, S.hp, .inl rfl, fun x c h => .inr (.inl ⟨x, h⟩), fun p hp => ?_, fun q hq => ?_, ⟨.inr (.inr (.inl rfl)), .inr (.inr (.inr (.inl rfl)))⟩⟩
    · rcases List.mem_cons.mp hp with rfl | hp
      · exact g.fresh hn2
      · exact S1.hm p hp
    · refine List.nodup_cons.mpr ⟨?_, S1.nd⟩
      intro hm
      rcases List.mem_cons.mp hm with h | h
      · exact hne h.symm
      · exact g.notM hn2 h
    · rcases List.mem_cons.mp hp with rfl | hp
      · exact .inr (.inr (.inr (.inr (by simp))))
      · rcases S1.xm p hp with h | h | h | h | h
        · exact .inl h
        · exact .inr (.inl h)
        · exact .inr (.inr (.inl h))
        · exact .inr (.inr (.inr (.inl h)))
        · exact .inr (.inr (.inr (.inr (List.mem_cons_of_mem _ h))))
    · rcases S1.xp q hq with h | h | h | h | h
      · exact .inl h
      · exact .inr (.inl h)
      · exact .inr (.inr (.inl h))
      · exact .inr (.inr (.inr (.inl h)))
      · exact .inr (.inr (.inr (.inr (List.mem_cons_of_mem _ h))))
  have g2 : LF h0 L cl (XS L cl as) hb bs ((a2, ds2) :: (a1, ds1) :: ms) pl h' := by
    refine { kp := g1.kp, old := g1.old, tabs := g1.tabs, kx := g1.kx, fr := ?_, cells := g1.cells, muts := ?_, pile := g1.pile }
    · obtain ⟨m, nn, rb, y⟩ := g.fr
      obtain ⟨m1, nn1, rb1, y1⟩ := g1.fr
      refine ⟨m, ns_kp (.of_keep kf) nn, fun x en hx => ?_, y⟩
      obtain ⟨v, hh1, hh2⟩ := rb x en hx
      refine ⟨v, hh1.kp (.of_keep kf), ?_⟩
      cases en with
      | v w => exact hh2
      | d d =>
        obtain ⟨as, rd, nd⟩ := hh2
        refine ⟨as, rds_kp (.of_keep kf) rd, fun b hb p hp => ?_⟩
        have al := rds_alloc rd _ hb
        rcases List.mem_cons.mp hp with rfl | hp
        · rintro rfl
          obtain ⟨o, ho⟩ := al
          rw [hn2] at ho; cases ho
        · rcases List.mem_cons.mp hp with rfl | hp
          · rintro rfl
            obtain ⟨o, ho⟩ := al
            rw [hn1] at ho; cases ho
          · exact nd b hb p hp
    · intro p hp
      rcases List.mem_cons.mp hp with rfl | hp
      · exact ⟨it2, n2, e2', r2, f2⟩
      · exact g1.muts p hp
  exact hQ T a1 a2 h' tk hT S2 g2.reX hne
/- x, y = two new lists, by order -/
theorem st_twoC {x y : Str} {px py p' : Pos} {kk : Nat} {e1 e2 : Expr} {k : Nat} {pos vpos : Pos} {rest : List Stmt} {ds1 ds2 : List PyData} (hh : A.handled = none) (S : LS h0 L cl (XS L cl as) ms pl) (g : LF h0 L cl (XS L cl as) hb bs ms pl s.heap) (hL : env.locals = L) (hk : env.scope.kind = .function) (hx : NK env cl x) (hy : NK env cl y)
    (h1 : EV w A env (LF h0 L cl (XS L cl as) hb bs ms pl) true e1 (.list ds1)) (h2 : EV w A env (LF h0 L cl (XS L cl as) hb bs ms pl) true e2 (.list ds2)) (f1 : flatAll ds1 = true) (f2 : flatAll ds2 = true)
    (hs1 : starEach [e1, e2] env = (false, eval e1 env) :: starEach [e2] env) (hs2 : starEach [e2] env = (false, eval e2 env) :: starEach [] env)
    (hs : swapsWithSole [.Tuple [.Name x px, .Name y py] kk p'] (.Tuple [e1, e2] k vpos) pos.line env = pure false) (hw : swappedStores [.Tuple [.Name x px, .Name y py] kk p'] (.Tuple [e1, e2] k vpos) env = pure none)
    (he : (assignEach [.Tuple [.Name x px, .Name y py] kk p'] env).map (·.2) = [assign (.Tuple [.Name x px, .Name y py] kk p') env])
    (he2 : (assignEach [.Name x px, .Name y py] env).map (·.2) = [assign (.Name x px) env, assign (.Name y py) env]) (he3 : (assignEach [.Name x px, .Name y py] env).length = 2) (he4 : (assignEach [.Name x px, .Name y py] env).findIdx? (·.1) = none)
    (next : ∀ a1 a2 hb' h' tk, a1 ≠ a2 → LS h0 L cl (XS L cl (a2 :: a1 :: as)) ((a2, ds2) :: (a1, ds1) :: ms) pl → LF h0 L cl (XS L cl (a2 :: a1 :: as)) hb' ((y, .v (.ref a2)) :: (x, .v (.ref a1)) :: bs) ((a2, ds2) :: (a1, ds1) :: ms) pl h' → wpAny (model thePr w) A (execs rest env) Q E { s with heap := h', toks := tk }) :
    wpAny (model thePr w) A (execs (.Assign [.Tuple [.Name x px, .Name y py] kk p'] (.Tuple [e1, e2] k vpos) pos :: rest) env) Q E s := by
  refine wpAny_execs_cons (wpAny_Assign_stores (st_two0 S g h1 h2 f1 f2 hs1 hs2 fun T a1 a2 h₁ tk₁ hT S' g' hne => ?_) hs hw)
  rw [he]
  have ht : h₁.IsTuple T _ := ⟨_, hT, rfl, _, rfl⟩
  refine assignAll_one (wpAny_assign_Tuple hh ht he3 he4 fun h₂ he₂ => ?_)
  rw [he2]
  have up₂ : Kf h₁ h₂ := fun c o e => he₂ c o (Nat.ne_of_lt (Heap.lt_size e)) e
  have g₂ := g'.kf up₂
  refine assignInOrder_cons (wpAny_assign_Name (wp_storeL S' g₂ (e := .v (.ref a1)) rfl hL hk hx fun h₃ tk₃ g₃ _ => ?_))
  refine assignInOrder_cons (wpAny_assign_Name (wp_storeL S' g₃ (e := .v (.ref a2)) rfl hL hk hy fun h₄ tk₄ g₄ _ => ?_))
  exact assignInOrder_nil (next a1 a2 _ _ _ hne S' g₄)
/- x, y = two new lists, the last stored first -/
theorem st_twoL {x y : Str} {px py p' : Pos} {kk : Nat} {e1 e2 : Expr} {k : Nat} {pos vpos : Pos} {rest : List Stmt} {ds1 ds2 : List PyData} (hh : A.handled = none) (S : LS h0 L cl (XS L cl as) ms pl) (g : LF h0 L cl (XS L cl as) hb bs ms pl s.heap) (hL : env.locals = L) (hk : env.scope.kind = .function) (hx : NK env cl x) (hy : NK env cl y)
    (h1 : EV w A env (LF h0 L cl (XS L cl as) hb bs ms pl) true e1 (.list ds1)) (h2 : EV w A env (LF h0 L cl (XS L cl as) hb bs ms pl) true e2 (.list ds2)) (f1 : flatAll ds1 = true) (f2 : flatAll ds2 = true)
    (hs1 : starEach [e1, e2] env = (false, eval e1 env) :: starEach [e2] env) (hs2 : starEach [e2] env = (false, eval e2 env) :: starEach [] env)
    (hs : swapsWithSole [.Tuple [.Name x px, .Name y py] kk p'] (.Tuple [e1, e2] k vpos) pos.line env = pure false) (hw : swappedStores [.Tuple [.Name x px, .Name y py] kk p'] (.Tuple [e1, e2] k vpos) env = pure (some [x, y]))
    (next : ∀ a1 a2 hb' h' tk, a1 ≠ a2 → LS h0 L cl (XS L cl (a2 :: a1 :: as)) ((a2, ds2) :: (a1, ds1) :: ms) pl → LF h0 L cl (XS L cl (a2 :: a1 :: as)) hb' ((x, .v (.ref a1)) :: (y, .v (.ref a2)) :: bs) ((a2, ds2) :: (a1, ds1) :: ms) pl h' → wpAny (model thePr w) A (execs rest env) Q E { s with heap := h', toks := tk }) :
    wpAny (model thePr w) A (execs (.Assign [.Tuple [.Name x px, .Name y py] kk p'] (.Tuple [e1, e2] k vpos) pos :: rest) env) Q E s := by
  refine wpAny_execs_cons ?_
  rw [exec_Assign_arm]
  refine wpAny_bind (wpAny_standAt ?_)
  rw [hs]
  refine wpAny_bind (wpAny_pure ?_)
  rw [if_neg (by decide)]
  refine wpAny_bind (st_two0 S g h1 h2 f1 f2 hs1 hs2 fun T a1 a2 h₁ tk₁ hT S' g' hne => ?_)
  rw [hw]
  refine wpAny_bind (wpAny_pure ?_)
  show wpAny _ A (rule "assign.swapped-stores" >>= fun _ => unpackItems (.ref T) 2 none >>= fun items => assignInOrder [bindName env y, bindName env x] items.reverse >>= fun _ => pure Flow.next) _ _ _
  refine wpAny_bind (wpAny_rule ?_)
  have ht : h₁.IsTuple T #[.ref a1, .ref a2] := ⟨_, hT, rfl, _, rfl⟩
  have key := fun Q hq => wpAny_unpackItems_tuple (prog := thePr) (w := w) (A := A) (E := E) (s := { s with heap := h₁, toks := tk₁ }) (Q := Q) hh ht hq
  refine wpAny_bind (key _ fun h₂ he₂ => ?_)
  have up₂ : Kf h₁ h₂ := fun c o e => he₂ c o (Nat.ne_of_lt (Heap.lt_size e)) e
  have g₂ := g'.kf up₂
  show wpAny _ A (assignInOrder [bindName env y, bindName env x] [.ref a2, .ref a1] >>= fun _ => pure Flow.next) _ _ _
  refine wpAny_bind (assignInOrder_cons (wpAny_bindName (wp_storeL S' g₂ (e := .v (.ref a2)) rfl hL hk hy fun h₃ tk₃ g₃ _ => ?_)))
  refine assignInOrder_cons (wpAny_bindName (wp_storeL S' g₃ (e := .v (.ref a1)) rfl hL hk hx fun h₄ tk₄ g₄ _ => ?_))
  exact assignInOrder_nil (wpAny_pure (next a1 a2 _ _ _ hne S' g₄))
end
end Mine
set_option maxRecDepth 100000
set_option linter.all false
namespace Mine
open PySem PySem.Spec PySem.Calls PyProof.Rows PySem.W
section
variable {w : World} {A : Around} {env : Env} {G : Heap → Prop} {s : Shared} {E : Value → Shared → Prop} {Q : Flow → Shared → Prop}
/- for a, b in enumerate(ints) -/
theorem st_forE {ns : List Int} {elts : List Expr} {tk0 : Nat} {tp : Pos} {e : Expr} {x : Str} {px cp : Pos} {body rest : List Stmt} {pos : Pos} (hm : Mono G) (hh : A.handled = none) (J : Nat → Shared → Prop) (X : Addr → Prop) (g : G s.heap)
    (hn : NV env G x (.type "enumerate")) (he : EV w A env G true e (.list (ns.map .int)))
    (hX : ∀ b, X b → ∃ o, s.heap.get? b = some o) (hJ0 : ∀ s', Keeps s s' → J 0 s')
    (hJ : ∀ i (s' : Shared) (h' : Heap) tk, J i s' → Kp s'.heap h' → (∀ b o, s.heap.get? b ≠ none → s'.heap.get? b = some o → h'.get? b = some o) → J i { s' with heap := h', toks := tk })
    (turn : ∀ i (hi : i < ns.length) (s₁ : Shared) u u' E', J i s₁ → wpAny (model thePr w) A (assignInOrder ((assignEach elts env).map (·.2)) [.int i u, .int ns[i] u']) (fun _ s₂ => wpAny (model thePr w) A (execs body env) (fun f s₃ => match f with
      | .next | .cont => J (i + 1) s₃ ∧ KX X s₁.heap s₃.heap
      | .brk => False
      | .ret v => Q (.ret v) s₃) E' s₂) E' s₁)
    (next : ∀ s', J ns.length s' → wpAny (model thePr w) A (execs rest env) Q E s')
    (hn2 : (assignEach elts env).length = 2) (hn3 : (assignEach elts env).findIdx? (·.1) = none)
    (hst : starEach [e] env = (false, eval e env) :: starEach [] env)
    (hs : ∀ y, foldedSetIterable (.Call (.Name x px) [e] [] cp) env y = pure y) :
    wpAny (model thePr w) A (execs (.For (.Tuple elts tk0 tp) (.Call (.Name x px) [e] [] cp) body [] pos :: rest) env) Q E s := by
  refine wpAny_execs_cons (wpAny_For ?_ hs)
  refine wpAny_Call_Name_kw (hn _ _ _ _ _ _ g ?_)
  have ha := EVs.cons (pos := cp) hm he .nil hst s E g
  rw [hst] at ha ⊢
  refine callWith_of (P := G) rfl (KPr.type _) (evalArgs_plain (evs_goNK ha fun vs as hp1 tk1 ra na k₁ => ?_))
  refine rdsC ra fun v vs as' bs' eas r r' => rds0 r' ?_
  subst eas
  have hfl : flatAll (ns.map PyData.int) = true := flatAll_of fun d hd => by obtain ⟨i, _, rfl⟩ := List.mem_map.mp hd; rfl
  obtain ⟨l, it0, n0, rfl, rfl, hl, r⟩ := rds_flatlist r hfl
  have hlnew : s.heap.get? l = none := na rfl l (by simp)
  replace hl : hp1.get? l = some (listO it0 n0) := hl
  refine ⟨hm _ _ k₁ g, ?_⟩
  refine call_enumerate_1 hl fun h₂ hen hit hsz k₂ => ?_
  generalize hei : hp1.objs.size = I at hen hit hsz
  replace hei : hp1.objs.size = I := hei
  have hIe : I + 1 ≠ I := Nat.succ_ne_self _
  have hll : l < I := hei ▸ Heap.lt_size hl
  have hl₂ : h₂.IsList l it0 := ⟨_, k₂ _ _ hl, rfl, _, rfl⟩
  have hsz0 : it0.size = ns.length := by have := readsAll_length r; rwa [Array.length_toList, List.length_map] at this
  refine wpAny_pyIter_enum hen ?_
  have W := WalksT.enumerate (prog := thePr) (w := w) hh (I + 1) I l hIe (Nat.ne_of_lt (Nat.lt_succ_of_lt hll)) (Nat.ne_of_lt hll) it0
  have newI : ∀ b, I ≤ b → s.heap.get? b = none := fun b hb => by
    cases e : s.heap.get? b with
    | none => rfl
    | some o => exact absurd (Heap.lt_size (k₁ _ _ e)) (Nat.not_lt.mpr (hei ▸ hb))
  refine codeAny_forLoop_any (fun n s' => ∃ i, i ≤ ns.length ∧ n = ns.length - i ∧ ((∃ old, IsEnum s'.heap (I + 1) I i old) ∧ s'.heap.IsListIter I l i ∧ s'.heap.IsList l it0) ∧ J i s') ?_ ns.length ⟨0, Nat.zero_le _, rfl, ⟨⟨_, hen⟩, hit, hl₂⟩, hJ0 _ ⟨h₂, tk1, rfl, Kf.trans k₁ k₂⟩⟩
  rintro n s' ⟨i, hle, rfl, st, j⟩
  have old : ∀ h' : Heap, (∀ b o, b ∉ [I + 1, I] → s'.heap.get? b = some o → h'.get? b = some o) → ∀ b o, s.heap.get? b ≠ none → s'.heap.get? b = some o → h'.get? b = some o := fun h' hk b o hb e => hk b o (fun hw => hb (newI b (by simp at hw; rcases hw with rfl | rfl; exact Nat.le_succ _; exact Nat.le_refl _))) e
  have loose : ∀ b o, b ∈ [I + 1, I] → s'.heap.get? b = some o → tabby o = true := fun b o hb e => by
    obtain ⟨⟨ol, he⟩, ⟨o2, ho2, hc2, hd2⟩, _⟩ := st
    simp at hb
    rcases hb with rfl | rfl
    · rw [he] at e; cases e; rfl
    · rw [ho2] at e; cases e; exact tabby_it hc2 hd2
  by_cases hi : i < ns.length
  · refine W.item i s' _ _ (by omega) st fun T vals h' tk hP hTn hT mid hk => ?_
    obtain ⟨u, y, hy, rfl⟩ := hP
    have kp : Kp s'.heap h' := fun b o e ht => hk b o (fun hb => by have := loose b o hb e; rw [ht] at this; cases this) e
    obtain ⟨v', bs, hv', rv⟩ := readsAll_get r (i := i) (d := .int ns[i]) (by simp [hi])
    have : v' = y := by
      have : it0.toList[i]? = some y := by simpa using hy
      rw [hv'] at this; cases this; rfl
    subst this
    obtain ⟨u', rfl⟩ : ∃ u', v' = .int ns[i] u' := rdsI rv fun u' => ⟨u', rfl⟩
    refine W.go elts tk0 tp i T _ _ _ mid fun h₃ st₃ hk₃ => ?_
    have hT₃ : h₃.IsTuple T _ := let ⟨o, e, r⟩ := hT; ⟨o, hk₃ _ o (W.apart i T _ mid) e, r⟩
    have hk13 : ∀ b o, b ∉ [I + 1, I] → s'.heap.get? b = some o → h₃.get? b = some o := fun b o hb e => hk₃ b o hb (hk b o hb e)
    have kp₃ : Kp s'.heap h₃ := fun b o e ht => hk13 b o (fun hb => by have := loose b o hb e; rw [ht] at this; cases this) e
    refine wpAny_assign_Tuple hh hT₃ hn2 hn3 fun h₄ hx₄ => ?_
    have k34 : Kf h₃ h₄ := fun b o e => hx₄ b o (Nat.ne_of_lt (Heap.lt_size e)) e
    refine wpAny_mono (turn i hi { s' with heap := h₄, toks := tk } u u' _ (hJ i s' h₄ tk j (kp₃.trans (.of_keep k34)) fun b o hb e => k34 _ _ (old h₃ hk13 b o hb e))) (fun _ s₂ h₂ => ?_) fun _ _ x => x
    refine wpAny_mono h₂ (fun f s₃ h₃' => ?_) fun _ _ x => x
    have notX : ∀ b, b = I + 1 ∨ b = I ∨ b = l → ¬ X b := fun b hb hx => by
      obtain ⟨o, ho⟩ := hX b hx
      rcases hb with rfl | rfl | rfl
      · rw [newI _ (Nat.le_succ _)] at ho; cases ho
      · rw [newI _ (Nat.le_refl _)] at ho; cases ho
      · rw [hlnew] at ho; cases ho
    have fin : J (i + 1) s₃ ∧ KX X h₄ s₃.heap → ∃ m, m < ns.length - i ∧ ∃ i', i' ≤ ns.length ∧ m = ns.length - i' ∧ ((∃ old, IsEnum s₃.heap (I + 1) I i' old) ∧ s₃.heap.IsListIter I l i' ∧ s₃.heap.IsList l it0) ∧ J i' s₃ := fun ⟨j', kx⟩ => by
      refine ⟨ns.length - (i + 1), by omega, i + 1, hi, rfl, W.frame (i + 1) h₃ _ st₃ fun b hb o e => kx b o (notX b (by simpa using hb)) (k34 _ _ e), j'⟩
    cases f with
    | next => exact fin h₃'
    | cont => exact fin h₃'
    | brk => exact h₃'.elim
    | ret v => exact h₃'
  · have : i = ns.length := by omega
    subst this
    refine W.done s' _ _ (by rw [hsz0]; exact st) fun h' tk hk => ?_
    have kp : Kp s'.heap h' := fun b o e ht => hk b o (fun hb => by have := loose b o hb e; rw [ht] at this; cases this) e
    exact wpAny_execs_nil (next _ (hJ _ s' h' tk j kp (old h' hk)))
end
end Mine
set_option maxRecDepth 100000
set_option linter.all false
namespace Mine
open PySem PySem.Spec PySem.Calls PyProof.Rows PySem.W
noncomputable def RC (w : World) (A : Around) (ds : List PyData) (a b c : Int) : Prop :=
  ∀ (s : Shared) (E : Value → Shared → Prop) (Q : Value → Shared → Prop) (vs : List Value) (as : List Addr), RdsAll s.heap vs ds as →
    (∀ t u v tk, Q (.ref s.heap.objs.size) { s with heap := s.heap.push { cls := .type "range", data := .fields #[.int a t, .int b u, .int c v] }, toks := tk }) → wpAny (model thePr w) A (PySem.call (.type "range") vs) Q E s
section
variable {w : World} {A : Around} {env : Env} {G : Heap → Prop}
theorem RC.one {n : Int} : RC w A [.int n] 0 n 1 := fun s E Q vs as r hQ => by
  refine rds1 r fun x1z b1z r => ?_
  first | refine rdsI r fun _ => ?_ | refine rdsS r fun _ => ?_ | refine rdsB r ?_ | refine rdsN r ?_
  exact call_range_1 (hQ _ _ _ _)
theorem RC.two {a b : Int} : RC w A [.int a, .int b] a b 1 := fun s E Q vs as r hQ => by
  refine rds2 r fun x1z x2z b1z b2z r r₂ => ?_
  first | refine rdsI r fun _ => ?_ | refine rdsS r fun _ => ?_ | refine rdsB r ?_ | refine rdsN r ?_
  first | refine rdsI r₂ fun _ => ?_ | refine rdsS r₂ fun _ => ?_ | refine rdsB r₂ ?_ | refine rdsN r₂ ?_
  exact call_range_2 (hQ _ _ _ _)
theorem RC.three {a b c : Int} (hc : c ≠ 0) (hp : Builtin.divisionGoesByPylong (b - a) c = false) : RC w A [.int a, .int b, .int c] a b c := fun s E Q vs as r hQ => by
  refine rds3 r fun x1z x2z x3z b1z b2z b3z r r₂ r₃ => ?_
  first | refine rdsI r fun _ => ?_ | refine rdsS r fun _ => ?_ | refine rdsB r ?_ | refine rdsN r ?_
  first | refine rdsI r₂ fun _ => ?_ | refine rdsS r₂ fun _ => ?_ | refine rdsB r₂ ?_ | refine rdsN r₂ ?_
  first | refine rdsI r₃ fun _ => ?_ | refine rdsS r₃ fun _ => ?_ | refine rdsB r₃ ?_ | refine rdsN r₃ ?_
  exact call_range_3 hc (hQ _ _ _ _) (.inl hp)
noncomputable abbrev rngD (a c : Int) (n : Nat) : List PyData := (List.range n).map fun i : Nat => PyData.int (a + i * c)
theorem ITN.rng (hm : Mono G) {b : Bool} {x : Str} {e : Expr} {es : List Expr} {p pos : Pos} {ds : List PyData} {a bb c : Int} {n : Nat} (hh : A.handled = none) (hn : NV env G x (.type "range")) (hargs : EVs w A env G b pos (e :: es) ds) (hc : RC w A ds a bb c)
    (hsm : Builtin.Range.small a bb c = true) (hsz : Builtin.Range.rangeSize a bb c = n)
    (hs : autoParam (starEach (e :: es) env = (false, eval e env) :: starEach es env) byRfl) (hplain : autoParam ((backTo pos (starEach es env)).any (·.1) = false) byRfl) :
    ITN w A env G (.Call (.Name x p) (e :: es) [] pos) (rngD a c n) := by
  intro s E Q g hQ
  refine wpAny_Call_Name_kw (hn _ _ _ _ _ _ g ?_)
  have ha := hargs s E g
  rw [hs] at ha ⊢
  refine callWith_of (P := G) (by show ((false || (backTo pos (starEach es env)).any (·.1)) || false) = false; rw [hplain]; rfl) (KPr.type _) (evalArgs_plain (evs_go ha fun vs s₁ as ra k₁ => ?_))
  refine ⟨hm _ _ (kf_of k₁) g, hc _ _ _ _ _ ra fun t u v tk => wpAny_pyIter_range (IsRange.new ..) hsm ?_⟩
  dsimp only
  rw [hsz]
  generalize hH : s₁.heap.push { cls := .type "range", data := .fields #[.int a t, .int bb u, .int c v] } = H
  have hkeep : Keeps s₁ { s₁ with heap := H, toks := tk } := ⟨H, _, rfl, fun b o e => by rw [← hH]; exact Heap.get?_push_of_some _ e⟩
  refine hQ { s₁ with heap := H, toks := tk } _ H.objs.size [H.objs.size] [H.objs.size] _ _ (keeps_trans k₁ hkeep) (keeps_push _ _)
    ⟨(by simp : (rngD a c n).length = n).symm ▸ Walks.range hh _ a c n, ?_, ?_, ?_, ?_, ?_⟩ ?_ ?_ ?_
  · intro b hb; simp at hb; subst hb; exact fresh_size _
  · rintro i v ⟨t, rfl⟩ d hd
    have hlt : i < n := by have := (List.getElem?_eq_some_iff.mp hd).1; simpa using this
    have : d = .int (a + i * c) := by simpa [hlt] using hd.symm
    subst this
    exact ⟨[], .int _ t⟩
  · intro i h b st hb o e
    simp at hb; subst hb
    have st : IsRangeIter h _ _ _ _ := st
    rw [st] at e; cases e
    rfl
  · intro i h b st hb o vs n e
    simp at hb; subst hb
    have st : IsRangeIter h _ _ _ _ := st
    rw [st] at e; cases e
    nofun
  · intro i target v s E Q st hq
    exact letOwned_off (o := _) st rfl (by decide) hq
  · show IsRangeIter (H.push _) H.objs.size _ _ _
    simpa using Heap.get?_push_size H (o := { cls := .type "range_iterator", data := .fields #[rawInt a, rawInt n, rawInt c] }) rfl
  · intro b hb
    simp at hb; subst hb
    show H.objs.size < (H.push _).objs.size
    rw [Heap.size_push]; exact Nat.lt_succ_self _
  · intro b hb
    simp at hb; subst hb
    exact none_of_keeps (keeps_trans k₁ hkeep) (fresh_size _)
theorem ITN.list {e : Expr} {xs : List PyData} (hh : A.handled = none) (hf : flatAll xs = true) (h : EV w A env G true e (.list xs)) : ITN w A env G e xs := by
  intro s E Q g hQ
  refine ev_goN (h s E g) fun v s₁ as r na k₁ => ?_
  obtain ⟨a, vs, n, rfl, rfl, ho, r⟩ := rds_flatlist r hf
  have hl : s₁.heap.IsList a vs := ⟨_, ho, rfl, _, rfl⟩
  have hsz : vs.size = xs.length := by have := readsAll_length r; rwa [Array.length_toList] at this
  have hne : a ≠ s₁.heap.objs.size := Nat.ne_of_lt (Heap.lt_size ho)
  refine wpAny_pyIter_list hl (hQ s₁ _ s₁.heap.objs.size [s₁.heap.objs.size, a] [s₁.heap.objs.size] _ _ k₁ (keeps_push _ _) ⟨hsz ▸ Walks.list hh _ a hne vs, ?_, ?_, ?_, ?_, ?_⟩ ⟨⟨_, Heap.get?_push_size _ rfl, rfl, rfl⟩, hl.push _⟩ ?_ ?_)
  · intro b hb; simp at hb; subst hb; exact fresh_size _
  · intro i v hv d hd
    obtain ⟨v', bs, hv', rv⟩ := readsAll_get r hd
    have : v' = v := by
      have : vs.toList[i]? = some v := by simpa using hv
      rw [hv'] at this; cases this; rfl
    subst this
    exact ⟨bs, rv⟩
  · intro i h b st hb o e
    simp at hb; subst hb
    obtain ⟨⟨o', ho', hc', hd'⟩, _⟩ := st
    rw [ho'] at e; cases e
    exact tabby_it hc' hd'
  · intro i h b st hb o vs n e
    simp at hb; subst hb
    obtain ⟨⟨o', ho', _, hd'⟩, _⟩ := st
    rw [ho'] at e; cases e
    rw [hd']; nofun
  · intro i target v s E Q st hq
    obtain ⟨⟨o', ho', hc', hd'⟩, _⟩ := st
    exact letOwned_off ho' hc' (by decide) hq
  · intro b hb
    show b < (s₁.heap.push _).objs.size
    rw [Heap.size_push]
    simp at hb
    rcases hb with rfl | rfl
    · exact Nat.lt_succ_self _
    · exact Nat.lt_succ_of_lt (Heap.lt_size ho)
  · intro b hb
    simp at hb
    rcases hb with rfl | rfl
    · exact none_of_keeps k₁ (fresh_size _)
    · exact na rfl _ (by simp)
end
end Mine
set_option maxRecDepth 100000
set_option linter.all false
namespace Mine
open PySem PySem.Spec PySem.Calls PyProof.Rows PySem.W
noncomputable def qOk (x : List Nat) : Bool := quotP x == some (sentP x) && (match subP code2 x.toArray [13, 10] 20 0 0 false [] with | some ps => decide (ps.flatten.length ≤ 12) | none => false) && decide ((sentP x).length ≤ 6)
noncomputable def qTexts (a : List Nat) : List (List Nat) := alpha.flatMap fun b => alpha.map fun c => a ++ b ++ c
theorem qa : (qTexts [97]).all qOk = true := by decide +kernel
theorem qb : (qTexts [46]).all qOk = true := by decide +kernel
theorem qc : (qTexts [10]).all qOk = true := by decide +kernel
theorem qd : (qTexts [13]).all qOk = true := by decide +kernel
theorem qe : (qTexts [45]).all qOk = true := by decide +kernel
end Mine
set_option maxRecDepth 100000
set_option linter.all false
namespace Mine
open PySem PySem.Spec PySem.Calls PyProof.Rows PySem.W
/-! ## the mails -/
structure Mail where
  due : Int
  k : Int
  text : List Nat
noncomputable abbrev Mail.dat (m : Mail) : PyData := .tuple [.int m.due, .int m.k, .str (mkS m.text)]
noncomputable def sg (i : Int) : List Nat := signL.getD i.toNat []
noncomputable def mailOf (v : Int) (k : Nat) : Mail := ⟨2 + v.fdiv 180, k, sg (v.fmod 5) ++ sg ((v.fdiv 5).fmod 6) ++ sg ((v.fdiv 30).fmod 6)⟩
/- a mail as the law makes them -/
structure Mail.Ok (m : Mail) : Prop where
  due : 2 ≤ m.due ∧ m.due ≤ 15
  k : 0 ≤ m.k ∧ m.k ≤ 5
  text : ∃ a b c, a ∈ signL.take 5 ∧ b ∈ signL ∧ c ∈ signL ∧ m.text = a ++ b ++ c
theorem sg_mem {i : Int} (h0 : 0 ≤ i) (h : i < 6) : sg i ∈ signL := by
  unfold sg
  obtain ⟨n, rfl⟩ := Int.eq_ofNat_of_zero_le h0
  have : n < 6 := by omega
  rw [List.getD_eq_getElem?_getD]
  have hl : signL.length = 6 := rfl
  simp [hl, this]
theorem sg_mem5 {i : Int} (h0 : 0 ≤ i) (h : i < 5) : sg i ∈ signL.take 5 := by
  obtain ⟨n, rfl⟩ := Int.eq_ofNat_of_zero_le h0
  have : n < 5 := by omega
  match n, this with
  | 0, _ | 1, _ | 2, _ | 3, _ | 4, _ => decide
theorem mailOf_ok {v : Int} (h0 : 0 ≤ v) (h : v < 2520) {k : Nat} (hk : k ≤ 5) : (mailOf v k).Ok := by
  have e1 : v.fdiv 180 = v / 180 := Int.fdiv_eq_ediv_of_nonneg _ (by decide)
  have e2 : v.fmod 5 = v % 5 := Int.fmod_eq_emod_of_nonneg _ (by decide)
  have e3 : v.fdiv 5 = v / 5 := Int.fdiv_eq_ediv_of_nonneg _ (by decide)
  have e4 : v.fdiv 30 = v / 30 := Int.fdiv_eq_ediv_of_nonneg _ (by decide)
  have e5 : ∀ x : Int, x.fmod 6 = x % 6 := fun x => Int.fmod_eq_emod_of_nonneg _ (by decide)
  refine ⟨?_, ?_, ?_⟩
  · show 2 ≤ 2 + v.fdiv 180 ∧ 2 + v.fdiv 180 ≤ 15
    rw [e1]; omega
  · show (0 : Int) ≤ k ∧ (k : Int) ≤ 5
    omega
  · refine ⟨_, _, _, sg_mem5 ?_ ?_, sg_mem ?_ ?_, sg_mem ?_ ?_, rfl⟩ <;> simp only [e2, e3, e4, e5] <;> omega
/- a threshold in a sorted list -/
theorem cut_filter {α : Type} (q : α → Bool) : ∀ (P : List α), P.Pairwise (fun a b => q b = true → q a = true) →
    P.filter q = P.take (P.filter q).length ∧ ∀ i x, P[i]? = some x → (q x = true ↔ i < (P.filter q).length)
  | [], _ => ⟨rfl, fun i x h => by simp at h⟩
  | a :: P, h => by
    obtain ⟨h1, h2⟩ := List.pairwise_cons.mp h
    obtain ⟨i1, i2⟩ := cut_filter q P h2
    by_cases ha : q a = true
    · rw [List.filter_cons_of_pos ha]
      refine ⟨by rw [List.length_cons, List.take_succ_cons, ← i1], fun i x hx => ?_⟩
      cases i with
      | zero => simp at hx; subst hx; simp [ha]
      | succ i => simp at hx; rw [i2 i x hx]; simp
    · have hall : ∀ x ∈ P, q x = false := fun x hx => by
        cases e : q x with
        | false => rfl
        | true => exact absurd (h1 x hx e) ha
      have hf : P.filter q = [] := List.filter_eq_nil_iff.mpr fun x hx => by rw [hall x hx]; decide
      rw [List.filter_cons_of_neg ha, hf]
      refine ⟨rfl, fun i x hx => ?_⟩
      cases i with
      | zero => simp at hx; subst hx; simp [ha]
      | succ i =>
        simp at hx
        have := hall x (List.mem_of_getElem? hx)
        simp [this]
noncomputable def SortedM (P : List Mail) : Prop := P.Pairwise fun a b => a.due ≤ b.due
/- how many of P go ahead of m: by less or equal, or by less -/
noncomputable def aheadB (late : Bool) (m : Mail) (x : Mail) : Bool := if late then decide (x.due ≤ m.due) else decide (x.due < m.due)
noncomputable def posM (late : Bool) (m : Mail) (P : List Mail) : Nat := (P.filter (aheadB late m)).length
theorem aheadB_mono {late : Bool} {m : Mail} {P : List Mail} (h : SortedM P) : P.Pairwise (fun a b => aheadB late m b = true → aheadB late m a = true) := by
  refine h.imp fun {a b} hab => ?_
  unfold aheadB
  cases late <;> simp <;> omega
theorem ins_eq {late : Bool} {m : Mail} {P : List Mail} (h : SortedM P) : P.filter (aheadB late m) ++ [m] ++ P.drop (posM late m P) = insAt P (posM late m P) m := by
  have := (cut_filter _ P (aheadB_mono (late := late) (m := m) h)).1
  unfold insAt posM
  rw [← this, List.append_assoc]
  rfl
theorem insAt_map {α β : Type} (f : α → β) (l : List α) (k : Nat) (y : α) : (insAt l k y).map f = insAt (l.map f) k (f y) := by simp [insAt]
theorem posM_le (late : Bool) (m : Mail) (P : List Mail) : posM late m P ≤ P.length := List.length_filter_le _ _
theorem sorted_ins {late : Bool} {m : Mail} {P : List Mail} (h : SortedM P) : SortedM (insAt P (posM late m P) m) := by
  obtain ⟨_, h2⟩ := cut_filter _ P (aheadB_mono (late := late) (m := m) h)
  have ht : ∀ x ∈ P.take (posM late m P), x.due ≤ m.due := fun x hx => by
    obtain ⟨i, hi⟩ := List.mem_iff_getElem?.mp hx
    have hi' : i < posM late m P := by
      have := (List.getElem?_eq_some_iff.mp hi).1
      rw [List.length_take] at this
      omega
    rw [List.getElem?_take_of_lt hi'] at hi
    have := (h2 i x hi).mpr hi'
    unfold aheadB at this
    cases late <;> simp at this <;> omega
  have hd : ∀ x ∈ P.drop (posM late m P), m.due ≤ x.due := fun x hx => by
    obtain ⟨i, hi⟩ := List.mem_iff_getElem?.mp hx
    rw [List.getElem?_drop] at hi
    have := (not_congr (h2 _ x hi)).mpr (by show ¬ posM late m P + i < posM late m P; omega)
    unfold aheadB at this
    cases late <;> simp at this <;> omega
  unfold insAt SortedM
  refine List.pairwise_append.mpr ⟨h.sublist (List.take_sublist _ _), List.pairwise_cons.mpr ⟨hd, h.sublist (List.drop_sublist _ _)⟩, fun a ha b hb => ?_⟩
  rcases List.mem_cons.mp hb with rfl | hb
  · exact ht a ha
  · have := ht a ha
    have := hd b hb
    omega
theorem mem_insAt {α : Type} {l : List α} {k : Nat} {y x : α} (h : x ∈ insAt l k y) : x = y ∨ x ∈ l := by
  unfold insAt at h
  rcases List.mem_append.mp h with h | h
  · exact .inr (List.mem_of_mem_take h)
  · rcases List.mem_cons.mp h with h | h
    · exact .inl h
    · exact .inr (List.mem_of_mem_drop h)
theorem length_insAt {α : Type} {l : List α} {k : Nat} {y : α} : (insAt l k y).length = l.length + 1 := by
  simp [insAt]; omega
theorem seekR_mail {m : Mail} {P : List Mail} (h : SortedM P) : SeekR (.ref 182) (P.map Mail.dat) m.dat (posM true m P) := by
  obtain ⟨_, h2⟩ := cut_filter _ P (aheadB_mono (late := true) (m := m) h)
  refine .inr ⟨rfl, fun i => match P[i]? with | some x => decide (m.due < x.due) | none => true, .int m.due, _, rfl, fun i e he => ?_, ⟨Nat.zero_le _, by rw [List.length_map]; exact posM_le _ _ _, fun i _ hi => ?_, fun i hi hn => ?_⟩⟩
  · rw [List.getElem?_map] at he
    cases hx : P[i]? with
    | none => rw [hx] at he; simp at he
    | some x =>
      rw [hx] at he
      simp at he
      subst he
      exact ⟨.int x.due, _, rfl, by simp only [hx]; exact LtD.int _ _⟩
  · have hlt : i < P.length := Nat.lt_of_lt_of_le hi (posM_le _ _ _)
    have hx : P[i]? = some P[i] := by simp [hlt]
    have := (h2 i _ hx).mpr hi
    simp only [hx]
    unfold aheadB at this
    simp at this ⊢
    omega
  · rw [List.length_map] at hn
    have hx : P[i]? = some P[i] := by simp [hn]
    have := (not_congr (h2 i _ hx)).mpr (by show ¬ i < posM true m P; omega)
    simp only [hx]
    unfold aheadB at this
    simp at this ⊢
    omega
theorem seekL_mail {m : Mail} {P : List Mail} (h : SortedM P) : SeekL (.ref 182) (P.map Mail.dat) m.dat (posM false m P) := by
  obtain ⟨_, h2⟩ := cut_filter _ P (aheadB_mono (late := false) (m := m) h)
  refine .inr ⟨rfl, fun i => match P[i]? with | some x => !decide (x.due < m.due) | none => true, .int m.due, _, rfl, fun i e he => ?_, ⟨Nat.zero_le _, by rw [List.length_map]; exact posM_le _ _ _, fun i _ hi => ?_, fun i hi hn => ?_⟩⟩
  · rw [List.getElem?_map] at he
    cases hx : P[i]? with
    | none => rw [hx] at he; simp at he
    | some x =>
      rw [hx] at he
      simp at he
      subst he
      exact ⟨.int x.due, _, rfl, by simp only [hx, Bool.not_not]; exact LtD.int _ _⟩
  · have hlt : i < P.length := Nat.lt_of_lt_of_le hi (posM_le _ _ _)
    have hx : P[i]? = some P[i] := by simp [hlt]
    have := (h2 i _ hx).mpr hi
    simp only [hx]
    unfold aheadB at this
    simp at this ⊢
    omega
  · rw [List.length_map] at hn
    have hx : P[i]? = some P[i] := by simp [hn]
    have := (not_congr (h2 i _ hx)).mpr (by show ¬ i < posM false m P; omega)
    simp only [hx]
    unfold aheadB at this
    simp at this ⊢
    omega
theorem flat_mails (P : List Mail) : flatAll (P.map Mail.dat) = true := flatAll_of fun d hd => by obtain ⟨m, _, rfl⟩ := List.mem_map.mp hd; rfl
/-! ## arguments, some of them known values -/
section
variable {w : World} {A : Around} {env : Env} {G : Heap → Prop}
noncomputable def AR (w : World) (A : Around) (env : Env) (G : Heap → Prop) (pos : Pos) (es : List Expr) (R : List Value → Heap → Prop) : Prop :=
  ∀ (s : Shared) (E : Value → Shared → Prop), G s.heap → wpAny (model thePr w) A (spliced (backTo pos (starEach es env))) (fun vs s' => R vs s'.heap ∧ Keeps s s') E s
theorem AR.nil {pos : Pos} : AR w A env G pos [] (fun vs _ => vs = []) := fun s E _ => spliced_nil ⟨rfl, keeps_refl _⟩
theorem AR.raw {pos : Pos} {x : Str} {p : Pos} {v : Value} {es : List Expr} {R : List Value → Heap → Prop} (hn : NV env G x v) (hr : AR w A env G pos es R) (hs : autoParam (starEach (.Name x p :: es) env = (false, eval (.Name x p) env) :: starEach es env) byRfl) :
    AR w A env G pos (.Name x p :: es) (fun vs h => ∃ r, vs = v :: r ∧ R r h) := fun s E g => by
  rw [hs]
  show wpAny _ A (spliced ((false, eval (.Name x p) env) :: backTo pos (starEach es env))) _ E s
  exact spliced_cons (hn _ _ _ _ _ _ g (wpAny_mono (hr s E g) (fun vs s' h' => ⟨⟨vs, rfl, h'.1⟩, h'.2⟩) fun _ _ x => x))
theorem AR.ev (hm : Mono G) {pos : Pos} {e : Expr} {f : Bool} {d : PyData} {es : List Expr} {R : List Value → Heap → Prop} (he : EV w A env G f e d) (hr : AR w A env G pos es R) (hs : autoParam (starEach (e :: es) env = (false, eval e env) :: starEach es env) byRfl) :
    AR w A env G pos (e :: es) (fun vs h => ∃ v r as, vs = v :: r ∧ Rds h v d as ∧ R r h) := fun s E g => by
  rw [hs]
  show wpAny _ A (spliced ((false, eval e env) :: backTo pos (starEach es env))) _ E s
  refine spliced_cons (ev_go (he s E g) fun v s₁ as r k₁ => ?_)
  refine wpAny_mono (hr s₁ E (hm _ _ (kf_of k₁) g)) (fun vs s₂ h₂ => ?_) fun _ _ x => x
  exact ⟨⟨v, vs, as, rfl, rds_kp (kp_of h₂.2) r, h₂.1⟩, keeps_trans k₁ h₂.2⟩
theorem wp_callR {s : Shared} {E : Value → Shared → Prop} {Q : Value → Shared → Prop} (hm : Mono G) {x : Str} {f : Value} {e : Expr} {es : List Expr} {p pos : Pos} {R : List Value → Heap → Prop} (g : G s.heap) (hn : NV env G x f) (hk : KPr G f) (hargs : AR w A env G pos (e :: es) R)
    (hc : ∀ (s₁ : Shared) (vs : List Value), Keeps s s₁ → G s₁.heap → R vs s₁.heap → wpAny (model thePr w) A (PySem.call f vs) Q E s₁)
    (he : autoParam (starEach (e :: es) env = (false, eval e env) :: starEach es env) byRfl) (hplain : autoParam ((backTo pos (starEach es env)).any (·.1) = false) byRfl) :
    wpAny (model thePr w) A (eval (.Call (.Name x p) (e :: es) [] pos) env) Q E s := by
  refine wpAny_Call_Name_kw (hn _ _ _ _ _ _ g ?_)
  have ha := hargs s E g
  rw [he] at ha ⊢
  refine callWith_of (P := G) (by show ((false || (backTo pos (starEach es env)).any (·.1)) || false) = false; rw [hplain]; rfl) (hk _) (evalArgs_plain (wpAny_mono ha (fun vs s₁ h₁ => ?_) fun _ _ x => x))
  have g₁ := hm _ _ (kf_of h₁.2) g
  exact ⟨g₁, hc s₁ vs h₁.2 g₁ h₁.1⟩
theorem wp_callKR {s : Shared} {E : Value → Shared → Prop} {Q : Value → Shared → Prop} (hm : Mono G) {x y kn : Str} {f kv : Value} {e : Expr} {es : List Expr} {p p2 p3 pos : Pos} {R : List Value → Heap → Prop} (g : G s.heap) (hn : NV env G x f) (hk : KPr G f) (hargs : AR w A env G pos (e :: es) R) (hkv : NV env G y kv)
    (hc : ∀ (s₁ : Shared) (vs : List Value), Keeps s s₁ → G s₁.heap → R vs s₁.heap → wpAny (model thePr w) A (PySem.call f vs [(kn, kv)]) Q E s₁)
    (he : autoParam (starEach (e :: es) env = (false, eval e env) :: starEach es env) byRfl) (hplain : autoParam ((backTo pos (starEach es env)).any (·.1) = false) byRfl) :
    wpAny (model thePr w) A (eval (.Call (.Name x p) (e :: es) [⟨some kn, .Name y p2, p3⟩] pos) env) Q E s := by
  refine wpAny_Call_Name_kw (hn _ _ _ _ _ _ g ?_)
  have ha := hargs s E g
  refine callWith_of (P := G) (by rw [he]; show ((false || (backTo pos (starEach es env)).any (·.1)) || false) = false; rw [hplain]; rfl) (hk _) (evalArgs_kw2 rfl (wpAny_mono ha (fun vs s₁ h₁ => ?_) fun _ _ x => x) he)
  have g₁ := hm _ _ (kf_of h₁.2) g
  refine kwAll_cons (hkv _ _ _ _ _ _ g₁ (kwAll_nil ⟨g₁, ?_⟩))
  exact hc s₁ vs h₁.2 g₁ h₁.1
end
end Mine
set_option maxRecDepth 100000
set_option linter.all false
namespace Mine
open PySem PySem.Spec PySem.Calls PyProof.Rows PySem.W
theorem LS.ls0 {h0 : Heap} {L : Addr} {cl : List (Str × Addr)} {X : Addr → Prop} {ms : List (Addr × List PyData)} {pl : Pl} (S : LS h0 L cl X ms pl) : LS0 h0 L cl := ⟨S.base, S.defs, S.tabs0, S.hL, S.hcn, S.hc, S.apart⟩
noncomputable def pickI (ns : List Int) (lo hi st : Option Int) : List Int := (sliceRange (sliceBounds lo hi st ns.length).1 (sliceBounds lo hi st ns.length).2.1 (sliceBounds lo hi st ns.length).2.2).filterMap (ns[·]?)
theorem pickD_ints (ns : List Int) (lo hi st : Option Int) : pickD (ns.map .int) lo hi st = (pickI ns lo hi st).map .int := by
  unfold pickD pickI
  rw [List.length_map, List.map_filterMap]
  congr 1
  funext i
  simp
theorem mkS_len (l : List Nat) : (mkS l).length = l.length := by show l.toArray.size = _; simp
theorem sg_len (i : Int) : (sg i).length ≤ 1 := by
  unfold sg
  generalize i.toNat = n
  match n with
  | 0 | 1 | 2 | 3 | 4 | 5 => decide
  | n + 6 =>
    have : signL.getD (n + 6) [] = [] := by
      rw [List.getD_eq_getElem?_getD, List.getElem?_eq_none (by show 6 ≤ n + 6; omega)]; rfl
    rw [this]; decide
theorem signs_at {i : Int} (h0 : 0 ≤ i) (h : i < 6) : (signL.map fun l => PyData.str (mkS l))[i.toNat]? = some (.str (mkS (sg i))) := by
  obtain ⟨n, rfl⟩ := Int.eq_ofNat_of_zero_le h0
  have hn : n < 6 := by omega
  rw [List.getElem?_map]
  unfold sg
  have hl : signL.length = 6 := rfl
  simp [List.getD_eq_getElem?_getD, hl, hn]
section
variable {w : World} {A : Around} {s : Shared} {E : Value → Shared → Prop} {Q : Flow → Shared → Prop}
variable {h0 : Heap} {L : Addr} {X : Addr → Prop} {hb : Heap} {bs : List (Str × Ent)} {ms : List (Addr × List PyData)} {pl : Pl} {pm : Value} {G : Heap → Prop}
/- signs[e] -/
theorem ev_sign {env : Env} {x : Expr} {e : Expr} {pos : Pos} {f : Bool} {i : Int} (hm : Mono G) (hx : EV w A env G f x (.list (signL.map fun l => .str (mkS l)))) {g : Bool} (he : EV w A env G g e (.int i)) (h0 : 0 ≤ i) (h : i < 6)
    (hs : ∀ o i', subscripted e false o i' = operate [o, i'] (getItem o i')) : EV w A env G false (.Subscript x e pos) (.str (mkS (sg i))) :=
  EV.item hm h0 (by omega) (signs_at h0 h) hx he hs
theorem ev_adds {env : Env} {a b : Expr} {pos : Pos} {x y : List Nat} {f g : Bool} (hm : Mono G) (ha : EV w A env G f a (.str (mkS x))) (hb : EV w A env G g b (.str (mkS y))) (hz : x.length + y.length ≤ 100) : EV w A env G true (.BinOp a .Add b pos) (.str (mkS (x ++ y))) := by
  have h100 : 100 ≤ sizeLine := by decide
  exact EV.cast (congrArg PyData.str (mkS_append x y)) (EV.adds hm (by rw [mkS_len, mkS_len]; omega) ha hb)
/- a name of the frame, its data -/
theorem EV.n {env : Env} {cl : List (Str × Addr)} {x : Str} {pos : Pos} {d : PyData} (he : autoParam (bs.lookup x = some (.d d)) byRfl) (hk : autoParam (env.scope.kind = .function) byRfl) (hx : RK env L cl x := by first | exact .inl ⟨rfl, rfl, rfl⟩ | exact .inr ⟨_, rfl, rfl, rfl⟩) (hd : autoParam ((x == ("__debug__" : Str)) = false) byRfl) :
    EV w A env (LF h0 L cl X hb bs ms pl) false (.Name x pos) d := EV.nm (fun _ g => g) he hk hx hd
/- the same within a comprehension -/
theorem EV.nc {env : Env} {cl : List (Str × Addr)} {x : Str} {pos : Pos} {d : PyData} {C : Addr} {ls : List (Str × PyData)} (he : autoParam (bs.lookup x = some (.d d)) byRfl) (hk : autoParam (env.scope.kind = .function) byRfl) (hx : RK env L cl x := by first | exact .inr ⟨_, rfl, rfl, rfl⟩ | exact .inl ⟨rfl, rfl, rfl⟩) (hd : autoParam ((x == ("__debug__" : Str)) = false) byRfl) :
    EV w A env (fun h => LF h0 L cl X hb bs ms pl h ∧ LB C ls h) false (.Name x pos) d := EV.nm (fun _ g => g.1) he hk hx hd
/- a name of the comprehension's own -/
theorem EV.cx {env : Env} {cl : List (Str × Addr)} {x : Str} {pos : Pos} {d : PyData} {C : Addr} {ls : List (Str × PyData)} (he : (x, d) ∈ ls := by simp) (hC : autoParam (env.locals = C) byRfl) (hk : autoParam (env.scope.kind = .function) byRfl) (hx : autoParam (env.kindOf x = some .local) byRfl) (hd : autoParam ((x == ("__debug__" : Str)) = false) byRfl) :
    EV w A env (fun h => LF h0 L cl X hb bs ms pl h ∧ LB C ls h) false (.Name x pos) d := EV.lb (fun _ g => g.2) he hC hk hx hd
/- a global function, a builtin -/
theorem NV.g {env : Env} {cl : List (Str × Addr)} {x : Str} {v : Value} (S : LS h0 L cl X ms pl) (e : autoParam (Mine.glob.lookup x = some v) byRfl) (hx : autoParam (env.kindOf x = some .globalImplicit) byRfl) (hk : autoParam (env.scope.kind = .function) byRfl) (hg : autoParam (env.globals = mainGlobals) byRfl) (hd : autoParam ((x == ("__debug__" : Str)) = false) byRfl) : NV env (LF h0 L cl X hb bs ms pl) x v := NV.gl S (fun _ g => g) e hx hk hg hd
theorem NV.b {env : Env} {cl : List (Str × Addr)} {x : Str} {v : Value} (S : LS h0 L cl X ms pl) (e : autoParam (blt.lookup x = some v) byRfl) (hx : autoParam (env.kindOf x = some .globalImplicit) byRfl) (hk : autoParam (env.scope.kind = .function) byRfl) (hg : autoParam (env.globals = mainGlobals) byRfl) (hb' : autoParam (env.builtins = builtinsNs) byRfl) (hd : autoParam ((x == ("__debug__" : Str)) = false) byRfl) : NV env (LF h0 L cl X hb bs ms pl) x v := NV.bl S (fun _ g => g) e hx hk hg hb' hd
theorem NV.gc {env : Env} {cl : List (Str × Addr)} {x : Str} {v : Value} {C : Addr} {ls : List (Str × PyData)} (S : LS h0 L cl X ms pl) (e : autoParam (Mine.glob.lookup x = some v) byRfl) (hx : autoParam (env.kindOf x = some .globalImplicit) byRfl) (hk : autoParam (env.scope.kind = .function) byRfl) (hg : autoParam (env.globals = mainGlobals) byRfl) (hd : autoParam ((x == ("__debug__" : Str)) = false) byRfl) : NV env (fun h => LF h0 L cl X hb bs ms pl h ∧ LB C ls h) x v := NV.gl S (fun _ g => g.1) e hx hk hg hd
theorem NV.bc {env : Env} {cl : List (Str × Addr)} {x : Str} {v : Value} {C : Addr} {ls : List (Str × PyData)} (S : LS h0 L cl X ms pl) (e : autoParam (blt.lookup x = some v) byRfl) (hx : autoParam (env.kindOf x = some .globalImplicit) byRfl) (hk : autoParam (env.scope.kind = .function) byRfl) (hg : autoParam (env.globals = mainGlobals) byRfl) (hb' : autoParam (env.builtins = builtinsNs) byRfl) (hd : autoParam ((x == ("__debug__" : Str)) = false) byRfl) : NV env (fun h => LF h0 L cl X hb bs ms pl h ∧ LB C ls h) x v := NV.bl S (fun _ g => g.1) e hx hk hg hb' hd
theorem NV.r {env : Env} {cl : List (Str × Addr)} {x : Str} {v : Value} (he : autoParam (bs.lookup x = some (.v v)) byRfl) (hk : autoParam (env.scope.kind = .function) byRfl) (hx : RK env L cl x := by first | exact .inl ⟨rfl, rfl, rfl⟩ | exact .inr ⟨_, rfl, rfl, rfl⟩) (hd : autoParam ((x == ("__debug__" : Str)) = false) byRfl) : NV env (LF h0 L cl X hb bs ms pl) x v := NV.nm (fun _ g => g) he hk hx hd
theorem mono_LC {cl : List (Str × Addr)} {C : Addr} {ls : List (Str × PyData)} : Mono (fun h => LF h0 L cl X hb bs ms pl h ∧ LB C ls h) := mono_LB mono_LF _ _
noncomputable abbrev bsA (told : List Int) : List (Str × Ent) := [("signs", .d (.list (signL.map fun l => .str (mkS l)))), ("start", .d (.int (startOf told))), ("told", .d (.list (told.map .int)))]
noncomputable def bases : List Int := [1301, 1435, 1033, 671, 1247, 1428]
/- ahead = [one for one in plain if one[0] .. mail[0]] -/
theorem aheads {late : Bool} {P : List Mail} {m : Mail} {p' apos pos px po1 po2 : Pos} {test : Expr} {rest : List Stmt} (S : LS h0 L (lcl L) X ms pl) (hA : Room 6 A) (hlen : (P.map Mail.dat).length ≤ sizeLine)
    (g : LF h0 L (lcl L) X hb bs ms pl s.heap) (hpl : bs.lookup ("plain" : Str) = some (.d (.list (P.map Mail.dat)))) (hml : bs.lookup ("mail" : Str) = some (.d m.dat))
    (ht : ∀ C x, x ∈ P → TVs w A (compEnvC ⟨.function, [(".0", .local), ("one", .local), ("mail", .free)], false, false, []⟩ [("mail", L+4)] C (lenv pm L)) (fun h => LF h0 L (lcl L) X hb bs ms pl h ∧ LB C [("one", x.dat)] h) [test] (aheadB late m x))
    (hsw : swapsWith (.ListComp (.Name "one" po1) [⟨.Name "one" po2, .Name "plain" px, [test], 0⟩] ⟨.function, [(".0", .local), ("one", .local), ("mail", .free)], false, false, []⟩ pos) (some (.Name "ahead" p')) apos.line (lenv pm L) = pure true)
    (next : ∀ h' tk, LF h0 L (lcl L) X hb (("ahead", .d (.list ((P.filter (aheadB late m)).map Mail.dat))) :: bs) ms pl h' → wpAny (model thePr w) A (execs rest (lenv pm L)) Q E { s with heap := h', toks := tk }) :
    wpAny (model thePr w) A (execs (.Assign [.Name "ahead" p'] (.ListComp (.Name "one" po1) [⟨.Name "one" po2, .Name "plain" px, [test], 0⟩] ⟨.function, [(".0", .local), ("one", .local), ("mail", .free)], false, false, []⟩ pos) apos :: rest) (lenv pm L)) Q E s := by
  refine st_comp (x := "ahead") (xs := P.map Mail.dat) (cl' := [("mail", L+4)]) (ls := fun d => [("one", d)]) (p := fun d => match d with | .tuple [.int x, .int k, .str t] => aheadB late m ⟨x, k, t.cps.toList⟩ | _ => false) (f := fun d => d) S g rfl rfl (.inl ⟨rfl, rfl⟩) hsw ?_ rfl (by decide) rfl (by decide) ?_ ?_ ?_ ?_ ?_ (fun _ => rfl) fun h' tk g' => ?_
  · exact IT.list hA.handled (EV.n hpl)
  · intro C d hd
    exact Asg.name rfl rfl
  · intro C d hd
    obtain ⟨x, hx, rfl⟩ := List.mem_map.mp hd
    exact ht C x hx
  · intro C d hd _
    exact ⟨false, EV.cx⟩
  · intro d hd _
    obtain ⟨x, _, rfl⟩ := List.mem_map.mp hd
    rfl
  · exact hlen
  · have e : ∀ P : List Mail, ((P.map Mail.dat).filter (fun d => match d with | .tuple [.int x, .int k, .str t] => aheadB late m ⟨x, k, t.cps.toList⟩ | _ => false)).map (fun d => d) = (P.filter (aheadB late m)).map Mail.dat := by
      intro P
      rw [List.map_id', List.filter_map]
      congr 1
    rw [e] at g'
    exact next h' tk g'
/- a turn of the first loop, behind the two names -/
theorem turn1 {told : List Int} {la : Addr} {P : List Mail} {i : Nat} {b : Int} (hA : Room 6 A) (hi : i ≤ 5) (hz : told.length ≤ 60) (hP : P.length = i) (hs : SortedM P) (S : LS h0 L (lcl L) X [(la, P.map Mail.dat)] none)
    (g : LF h0 L (lcl L) X hb (("base", .d (.int b)) :: ("k", .d (.int i)) :: ("plain", .d (.list (P.map Mail.dat))) :: ("line", .v (.ref la)) :: bsA told) [(la, P.map Mail.dat)] none s.heap)
    {body : List Stmt} (hbody : body = (match lawB.getD 4 (.Pass ⟨0, 0, 0, 0⟩) with | .For _ _ b _ _ => b | _ => []))
    (next : ∀ h' tk m P', m.Ok → P' = insAt P (posM (i % 2 == 0) m P) m → LF h0 L (lcl L) X hb (("plain", .d (.list (P'.map Mail.dat))) :: ("line", .v (.ref la)) :: bsA told) [(la, P'.map Mail.dat)] none h' → Q .next { s with heap := h', toks := tk }) :
    wpAny (model thePr w) A (execs body (lenv pm L)) Q E s := by
  subst hbody
  have h1000 : 1000 ≤ sizeLine := by decide
  generalize hV : (b + (pickI told (some i) none (some 6)).sum).fmod 2520 = V
  have hV' : V = (b + (pickI told (some i) none (some 6)).sum) % 2520 := by rw [← hV]; exact Int.fmod_eq_emod_of_nonneg _ (by decide)
  have hV0 : 0 ≤ V ∧ V < 2520 := by rw [hV']; omega
  refine st_asg (x := "v") (d := .int V) (f := true) S g rfl rfl (.inl ⟨rfl, rfl⟩) ?_ (.inl rfl) rfl fun h1 tk1 g1 => ?_
  · rw [← hV]
    refine EV.mod mono_LF (by decide) (EV.add mono_LF EV.n (EV.sum mono_LF hA.handled (NV.b S) (EV.cast (congrArg PyData.list (pickD_ints _ _ _ _)) (EV.slice mono_LF EV.n (OE.some EV.n) OE.none (OE.some EV.int) (by decide) ?_ ?_)))) EV.int
    · exact flatAll_of fun d hd => by obtain ⟨i, _, rfl⟩ := List.mem_map.mp hd; rfl
    · rw [List.length_map]; omega
  have hok := mailOf_ok hV0.1 hV0.2 hi
  have e2 : V.fmod 5 = V % 5 := Int.fmod_eq_emod_of_nonneg _ (by decide)
  have e3 : V.fdiv 5 = V / 5 := Int.fdiv_eq_ediv_of_nonneg _ (by decide)
  have e4 : V.fdiv 30 = V / 30 := Int.fdiv_eq_ediv_of_nonneg _ (by decide)
  have e5 : ∀ x : Int, x.fmod 6 = x % 6 := fun x => Int.fmod_eq_emod_of_nonneg _ (by decide)
  have nl : ∀ (x y : Int), y.natAbs < 1073741824 → Builtin.divisionGoesByPylong x y = false := fun x y h => PyProof.noPylong_small h
  refine st_asg (x := "mail") (d := (mailOf V i).dat) (f := true) S g1 rfl rfl (.inr ⟨_, rfl, rfl, rfl⟩) ?_ (.inl rfl) rfl fun h2 tk2 g2 => ?_
  · refine EV.new (f := false) ?_ rfl
    refine EV.tuple (EVs.weak (f := false) (.cons mono_LF (EV.weak (EV.add mono_LF EV.int (EV.fdiv mono_LF (by decide) (nl _ _ (by decide)) EV.n EV.int))) (.cons mono_LF EV.n (.cons mono_LF (EV.weak (ev_adds (g := false) mono_LF (ev_adds (f := false) (g := false) mono_LF ?_ ?_ ?_) ?_ ?_)) .nil)))) (show 3 ≤ sizeLine by decide)
    · exact ev_sign mono_LF EV.n (EV.mod mono_LF (by decide) EV.n EV.int) (by omega) (by omega) (fun _ _ => rfl)
    · exact ev_sign mono_LF EV.n (EV.mod mono_LF (by decide) (EV.fdiv mono_LF (by decide) (nl _ _ (by decide)) EV.n EV.int) EV.int) (by rw [e5]; omega) (by rw [e5]; omega) (fun _ _ => rfl)
    · have := sg_len (V.fmod 5); have := sg_len ((V.fdiv 5).fmod 6); omega
    · exact ev_sign mono_LF EV.n (EV.mod mono_LF (by decide) (EV.fdiv mono_LF (by decide) (nl _ _ (by decide)) EV.n EV.int) EV.int) (by rw [e5]; omega) (by rw [e5]; omega) (fun _ _ => rfl)
    · have := sg_len (V.fmod 5); have := sg_len ((V.fdiv 5).fmod 6); have := sg_len ((V.fdiv 30).fmod 6); rw [List.length_append]; omega
  generalize mailOf V i = m at hok g2
  refine st_if g2 mono_LF (TV.eqi mono_LF (EV.mod mono_LF (by decide) (EV.n (d := .int i)) EV.int) EV.int) fun s3 g3 k3 => ?_
  obtain ⟨h3, tk3, rfl, k3⟩ := k3
  have hpar : ((i : Int).fmod 2 == 0) = (i % 2 == 0) := by
    rw [Int.fmod_eq_emod_of_nonneg _ (by decide)]
    rw [Bool.eq_iff_iff]; simp; omega
  rw [hpar]
  generalize (i % 2 == 0) = late at next ⊢
  have hflm : flat m.dat = true := rfl
  have hlen : (P.map Mail.dat).length ≤ sizeLine := by rw [List.length_map]; omega
  have hpos := posM_le late m P
  -- the tail, alike for both ways
  have fin : ∀ h4 tk4, LF h0 L (lcl L) X hb (("ahead", .d (.list ((P.filter (aheadB late m)).map Mail.dat))) :: ("mail", .d m.dat) :: ("v", .d (.int V)) :: ("base", .d (.int b)) :: ("k", .d (.int i)) :: ("plain", .d (.list (P.map Mail.dat))) :: ("line", .v (.ref la)) :: bsA told) [(la, (insAt P (posM late m P) m).map Mail.dat)] none h4 →
      wpAny (model thePr w) A (execs ((match lawB.getD 4 (.Pass ⟨0, 0, 0, 0⟩) with | .For _ _ b _ _ => b | _ => []).drop 3) (lenv pm L)) Q E { s with heap := h4, toks := tk4 } := fun h4 tk4 g4 => by
    have S4 := S.reMs (ms' := [(la, (insAt P (posM late m P) m).map Mail.dat)]) rfl
    refine st_asg (x := "plain") (d := .list ((insAt P (posM late m P) m).map Mail.dat)) (f := true) S4 g4 rfl rfl (.inr ⟨_, rfl, rfl, rfl⟩) ?_ (.inl rfl) rfl fun h5 tk5 g5 => ?_
    · have hl1 : (P.filter (aheadB late m)).length ≤ P.length := List.length_filter_le _ _
      have hI : ((P.filter (aheadB late m)).map Mail.dat ++ [m].map Mail.dat) ++ (P.drop (posM late m P)).map Mail.dat = (insAt P (posM late m P) m).map Mail.dat := by rw [← ins_eq hs, List.map_append, List.map_append]
      refine EV.cast (congrArg PyData.list hI) ?_
      refine EV.addl mono_LF ?_ ?_ ?_ (EV.addl mono_LF ?_ ?_ ?_ EV.n (EV.list (f := false) (EVs.cons mono_LF EV.n .nil) (show 1 ≤ sizeLine by decide))) (EV.cast ?_ (EV.slice mono_LF (EV.n (d := .list (P.map Mail.dat))) (OE.some (EV.len mono_LF (NV.b S4) EV.n ?_)) OE.none OE.none (by decide) (flat_mails _) hlen))
      · exact flatAll_append (flat_mails _) (by simp [flatAll, hflm])
      · exact flat_mails _
      · simp; omega
      · exact flat_mails _
      · simp [flatAll, hflm]
      · simp; omega
      · rw [pickD_from _ _ (by omega), List.length_map, ← List.map_drop]; rfl
      · rw [List.length_map]; omega
    · exact wpAny_execs_nil (next h5 tk5 m _ hok rfl (g5.sub fun p hp => by
        simp at hp
        rcases hp with rfl | rfl | rfl | rfl | rfl <;> rfl))
  have hK : ∀ h, LF h0 L (lcl L) X hb (("mail", .d m.dat) :: ("v", .d (.int V)) :: ("base", .d (.int b)) :: ("k", .d (.int i)) :: ("plain", .d (.list (P.map Mail.dat))) :: ("line", .v (.ref la)) :: bsA told) [(la, P.map Mail.dat)] none h → FnAt h 47 "insort_right" (topSt 3) (.ref 39) (.ref 40) 46 := fun h g => (g.base S).insr
  have hK2 : ∀ h, LF h0 L (lcl L) X hb (("mail", .d m.dat) :: ("v", .d (.int V)) :: ("base", .d (.int b)) :: ("k", .d (.int i)) :: ("plain", .d (.list (P.map Mail.dat))) :: ("line", .v (.ref la)) :: bsA told) [(la, P.map Mail.dat)] none h → FnAt h 65 "insort_left" (topSt 5) (.ref 57) (.ref 58) 64 := fun h g => (g.base S).insl
  cases late with
  | true =>
    rw [if_pos rfl]
    refine wpAny_execs_cons (wpAny_Expr (wp_callKR mono_LF g3 (NV.g S) (KPr.base hK) (AR.raw NV.r (AR.ev mono_LF EV.n .nil)) (NV.g S (v := .ref 182)) fun s4 vs k4 g4 r4 => ?_))
    obtain ⟨_, rfl, v4, _, as4, rfl, r4, rfl⟩ := r4
    have := rds_flat r4 hflm
    subst this
    obtain ⟨it, n, e4', ra4, _⟩ := g4.muts _ (List.mem_singleton_self _)
    refine insr (hA.le (by decide)) (g4.base S) (.inr rfl) e4' ra4 r4 (flat_mails _) hflm hlen (seekR_mail hs) fun h5 tk5 it5 n5 e5' r5 kb5 => ?_
    have g5 := g4.mut (ms' := [(la, (insAt P (posM true m P) m).map Mail.dat)]) S (List.mem_singleton_self _) kb5 e5' (by rw [insAt_map]; exact r5) (flat_mails _) (fun p hp => .inl (by simpa using hp)) rfl
    obtain ⟨h4, tk4, rfl, k4⟩ := k4
    show wpAny _ A _ _ _ { s with heap := h5, toks := tk5 }
    have S5 := S.reMs (ms' := [(la, (insAt P (posM true m P) m).map Mail.dat)]) rfl
    refine aheads (late := true) (m := m) (s := { s with heap := h5, toks := tk5 }) S5 hA hlen g5 rfl rfl ?_ rfl fun h' tk g' => wpAny_execs_nil (fin h' tk g')
    exact fun C x hx => TVs.one (TV.le mono_LC (EV.itemT (k := 0) mono_LC (by decide) (by decide) rfl (EV.cx (d := x.dat)) EV.int) (EV.itemT (k := 0) mono_LC (by decide) (by decide) rfl (EV.nc (d := m.dat)) EV.int))
  | false =>
    rw [if_neg (by decide)]
    refine wpAny_execs_cons (wpAny_Expr (wp_callKR mono_LF g3 (NV.g S) (KPr.base hK2) (AR.raw NV.r (AR.ev mono_LF EV.n .nil)) (NV.g S (v := .ref 182)) fun s4 vs k4 g4 r4 => ?_))
    obtain ⟨_, rfl, v4, _, as4, rfl, r4, rfl⟩ := r4
    have := rds_flat r4 hflm
    subst this
    obtain ⟨it, n, e4', ra4, _⟩ := g4.muts _ (List.mem_singleton_self _)
    refine insl (hA.le (by decide)) (g4.base S) (.inr rfl) e4' ra4 r4 (flat_mails _) hflm hlen (seekL_mail hs) fun h5 tk5 it5 n5 e5' r5 kb5 => ?_
    have g5 := g4.mut (ms' := [(la, (insAt P (posM false m P) m).map Mail.dat)]) S (List.mem_singleton_self _) kb5 e5' (by rw [insAt_map]; exact r5) (flat_mails _) (fun p hp => .inl (by simpa using hp)) rfl
    obtain ⟨h4, tk4, rfl, k4⟩ := k4
    show wpAny _ A _ _ _ { s with heap := h5, toks := tk5 }
    have S5 := S.reMs (ms' := [(la, (insAt P (posM false m P) m).map Mail.dat)]) rfl
    refine aheads (late := false) (m := m) (s := { s with heap := h5, toks := tk5 }) S5 hA hlen g5 rfl rfl ?_ rfl fun h' tk g' => wpAny_execs_nil (fin h' tk g')
    exact fun C x hx => TVs.one (TV.lt mono_LC (EV.itemT (k := 0) mono_LC (by decide) (by decide) rfl (EV.cx (d := x.dat)) EV.int) (EV.itemT (k := 0) mono_LC (by decide) (by decide) rfl (EV.nc (d := m.dat)) EV.int))
end
end Mine
set_option maxRecDepth 100000
set_option linter.all false
namespace Mine
open PySem PySem.Spec PySem.Calls PyProof.Rows PySem.W
section
variable {h0 : Heap} {L : Addr} {cl : List (Str × Addr)} {as as' : List Addr} {X X' : Addr → Prop} {hb : Heap} {bs : List (Str × Ent)} {ms ms' : List (Addr × List PyData)} {pl pl' : Pl} {h h' hb' : Heap} {bs' : List (Str × Ent)}
theorem LF.hX (g : LF h0 L cl (XS L cl as) hb bs ms pl h) (ha : ∀ a ∈ as, ∃ o, h.get? a = some o ∧ ∀ vs n, o ≠ tupO vs n) : ∀ b, XS L cl as b → ∃ o, h.get? b = some o ∧ ∀ vs n, o ≠ tupO vs n := by
  intro b hb
  rcases hb with rfl | ⟨x, hx⟩ | rfl | rfl | hb
  · obtain ⟨m, ⟨o, es, ep, ho, hd, _⟩, _⟩ := g.fr
    exact ⟨o, ho, fun vs n h => by subst h; cases hd⟩
  · obtain ⟨v, o, ho, hd⟩ := g.cells _ _ hx
    exact ⟨o, ho, fun vs n h => by subst h; cases hd⟩
  · obtain ⟨ps, _, ⟨_, e⟩⟩ := g.tabs.l
    exact ⟨_, e, fun vs n h => by cases h⟩
  · obtain ⟨ps, _, ⟨_, e⟩⟩ := g.tabs.s
    exact ⟨_, e, fun vs n h => by cases h⟩
  · exact ha b hb
theorem LF.mutObj (g : LF h0 L cl X hb bs ms pl h) {a : Addr} (ha : a ∈ ms.map (·.1)) : ∃ o, h.get? a = some o ∧ ∀ vs n, o ≠ tupO vs n := by
  obtain ⟨p, hp, rfl⟩ := List.mem_map.mp ha
  obtain ⟨it, n, e, _⟩ := g.muts p hp
  exact ⟨_, e, fun vs n h => by simp at h⟩
theorem LF.pileObj {q : Addr × Int × List PyData} (g : LF h0 L cl X hb bs ms (some q) h) : ∃ o, h.get? q.1 = some o ∧ ∀ vs n, o ≠ tupO vs n := by
  obtain ⟨⟨o, it, n, dx, u, ho, hc, _⟩, _⟩ := g.pile q rfl
  exact ⟨o, ho, fun vs n h => by subst h; cases hc⟩
/- another set of what may change -/
theorem LS.re (S : LS h0 L cl X ms pl) (hm : ∀ p ∈ ms', p.1 ∈ ms.map (·.1) ∧ p.1 ∈ as') (nd : (ms'.map (·.1)).Nodup) (hp : ∀ q, pl = some q → q.1 ∈ as') : LS h0 L cl (XS L cl as') ms' pl :=
  S.ls0.ls (fun p h => ⟨by
    obtain ⟨q, hq, e⟩ := List.mem_map.mp (hm p h).1
    rw [← e]; exact S.hm q hq, (hm p h).2⟩) nd fun q hq => ⟨S.hp q hq, hp q hq⟩
/- the frame, the world beside it -/
structure LG (h0 : Heap) (L : Addr) (cl : List (Str × Addr)) (X : Addr → Prop) (hb : Heap) (bs : List (Str × Ent)) (ms : List (Addr × List PyData)) (pl : Pl) (os : OsState) (s : Shared) : Prop where
  lf : LF h0 L cl X hb bs ms pl s.heap
  os : s.os = os
  bare : AllBare s.gens
theorem LF.go0 (kp : Kp h h') (ok : OldK h0 h → OldK h0 h') (tb : Tabs h') (x : LF h0 L cl X hb bs ms pl h) : LF h0 L cl X' h' bs ms pl h' where
  kp := x.kp.trans kp
  old := ok x.old
  tabs := tb
  kx := fun _ _ _ e => e
  fr := by
    obtain ⟨m, n, rb, y⟩ := x.fr
    exact ⟨m, ns_kp kp n, fun x d e => by obtain ⟨v, e1, e2⟩ := rb x d e; exact ⟨v, e1.kp kp, e2.up fun _ _ _ r _ => rds_kp kp r⟩, y⟩
  cells := fun y c e => by obtain ⟨v, q⟩ := x.cells y c e; exact ⟨v, cell_kp kp q⟩
  muts := fun p hp => by obtain ⟨items, n, e, r, f⟩ := x.muts p hp; exact ⟨items, n, kp _ _ e rfl, rdsAll_kp kp r, f⟩
  pile := fun q e => by obtain ⟨P, f⟩ := x.pile q e; exact ⟨P.kp kp, f⟩
/- a loop's iterator goes on: it is none of h0's, nor a table -/
theorem LF.step {s0 : Heap} (g0 : LF h0 L cl X hb bs' ms' pl' s0) (g : LF h0 L cl X hb' bs ms pl h) (kp : Kp h h') (hold : ∀ b o, s0.get? b ≠ none → h.get? b = some o → h'.get? b = some o) : LF h0 L cl X' h' bs ms pl h' :=
  g.go0 kp (fun o => Mine.OldK.step_dom o fun b o' o0 e0 e => hold b o' (by obtain ⟨o1, e1⟩ := g0.old.there b o0 e0; rw [e1]; nofun) e)
    (by
      obtain ⟨o1, e1, _⟩ := g0.tabs.l.objc
      obtain ⟨o2, e2, _⟩ := g0.tabs.l.obj
      obtain ⟨o3, e3, _⟩ := g0.tabs.s.objc
      obtain ⟨o4, e4, _⟩ := g0.tabs.s.obj
      exact ⟨g.tabs.l.at (fun o e => hold _ _ (by rw [e1]; nofun) e) (fun o e => hold _ _ (by rw [e2]; nofun) e), g.tabs.s.at (fun o e => hold _ _ (by rw [e3]; nofun) e) (fun o e => hold _ _ (by rw [e4]; nofun) e)⟩)
end
section
variable {w : World} {A : Around} {s : Shared} {E : Value → Shared → Prop} {Q : Flow → Shared → Prop}
variable {h0 : Heap} {L : Addr} {hb : Heap} {pm : Value}
noncomputable abbrev sgE : Str × Ent := ("signs", .d (.list (signL.map fun l => .str (mkS l))))
/- line and plain, and the first loop -/
theorem walk3 {told : List Int} (hA : Room 6 A) (hz : told.length ≤ 60) (S : LS h0 L (lcl L) (XS L (lcl L) []) [] none) (g : LF h0 L (lcl L) (XS L (lcl L) []) hb (bsA told) [] none s.heap) (hbare : AllBare s.gens)
    (next : ∀ s' hb' P, P.length = 6 → SortedM P → (∀ m ∈ P, m.Ok) → LF h0 L (lcl L) (XS L (lcl L) []) hb' [("line", .d (.list (P.map Mail.dat))), ("plain", .d (.list (P.map Mail.dat))), ("start", .d (.int (startOf told))), sgE] [] none s'.heap → s'.os = s.os → AllBare s'.gens →
      wpAny (model thePr w) A (execs (lawB.drop 5) (lenv pm L)) Q E s') :
    wpAny (model thePr w) A (execs (lawB.drop 3) (lenv pm L)) Q E s := by
  refine st_twoC (x := "line") (y := "plain") (ds1 := []) (ds2 := []) hA.handled S g rfl rfl (.inr ⟨_, rfl, rfl, rfl⟩) (.inr ⟨_, rfl, rfl, rfl⟩) (EV.list EVs.nil (by decide)) (EV.list EVs.nil (by decide)) rfl rfl rfl rfl rfl rfl rfl rfl rfl rfl fun a1 a2 hb1 h1 tk1 hne S1 g1 => ?_
  have g2 := (g1.freeze (x := "plain") (a := a2) (ds := []) (ms' := [(a1, [])]) rfl (by simp) (fun p hp => by simp at hp; subst hp; exact ⟨by simp, hne⟩)).sub (bs' := ("plain", .d (.list ([].map Mail.dat))) :: ("line", .v (.ref a1)) :: bsA told) (fun p hp => by
    simp at hp
    rcases hp with rfl | rfl | rfl | rfl | rfl <;> rfl)
  have S2 : LS h0 L (lcl L) (XS L (lcl L) [a1]) [(a1, ([] : List Mail).map Mail.dat)] none := S1.re (fun p hp => by simp at hp; subst hp; simp) (by simp) (by simp)
  have g3 := g2.reX (X' := XS L (lcl L) [a1])
  have hX := g3.hX (fun a ha => by simp at ha; subst ha; exact g3.mutObj (by simp))
  refine st_forE (ns := bases) (G := LF h0 L (lcl L) (XS L (lcl L) [a1]) h1 (("plain", .d (.list ([].map Mail.dat))) :: ("line", .v (.ref a1)) :: bsA told) [(a1, ([] : List Mail).map Mail.dat)] none) mono_LF hA.handled
    (fun i s' => ∃ P hb', P.length = i ∧ SortedM P ∧ (∀ m ∈ P, m.Ok) ∧ LF h0 L (lcl L) (XS L (lcl L) [a1]) hb' (("plain", .d (.list (P.map Mail.dat))) :: ("line", .v (.ref a1)) :: bsA told) [(a1, P.map Mail.dat)] none s'.heap ∧ s'.os = s.os ∧ AllBare s'.gens)
    (XS L (lcl L) [a1]) g3 (NV.b S2) ?_ (fun b hb => by obtain ⟨o, ho, _⟩ := hX b hb; exact ⟨o, ho⟩) ?_ ?_ ?_ ?_ rfl rfl rfl (fun _ => rfl)
  · exact EV.list (.cons mono_LF EV.int (.cons mono_LF EV.int (.cons mono_LF EV.int (.cons mono_LF EV.int (.cons mono_LF EV.int (.cons mono_LF EV.int .nil)))))) (by decide)
  · rintro s' ⟨h', tk, rfl, k⟩
    exact ⟨[], _, rfl, .nil, by simp, g3.kf k, rfl, hbare⟩
  · rintro i s' h' tk ⟨P, hb', h1, h2, h3, g', ho, hba⟩ kp hold
    exact ⟨P, h', h1, h2, h3, g3.step (hb' := hb') g' kp hold, ho, hba⟩
  · rintro i hi s1 u u' E' ⟨P, hb', hP, hs, hok, g', ho, hba⟩
    have hi' : i < 6 := hi
    have Sx : LS h0 L (lcl L) (XS L (lcl L) [a1]) [(a1, P.map Mail.dat)] none := S2.reMs rfl
    have g4 := g'.reX (X' := XS L (lcl L) [a1])
    refine assignInOrder_cons (wpAny_assign_Name (wp_storeL Sx g4 (e := .d (.int i)) ⟨[], .int _ _, fun _ h => nomatch h⟩ rfl rfl (.inl ⟨rfl, rfl⟩) fun h2 tk2 g5 _ => ?_))
    refine assignInOrder_cons (wpAny_assign_Name (wp_storeL Sx g5 (e := .d (.int bases[i])) ⟨[], .int _ _, fun _ h => nomatch h⟩ rfl rfl (.inl ⟨rfl, rfl⟩) fun h3 tk3 g6 _ => ?_))
    refine assignInOrder_nil ?_
    refine turn1 (s := { s1 with heap := h3, toks := tk3 }) (b := bases[i]) (hb := s1.heap) hA (by omega) hz hP hs Sx ?_ rfl fun h4 tk4 m P' hm hP' g7 => ?_
    · exact g6.sub (fun p hp => by
        simp at hp
        rcases hp with rfl | rfl | rfl | rfl | rfl | rfl | rfl <;> rfl)
    · refine ⟨⟨P', _, ?_, ?_, ?_, g7, ho, hba⟩, g7.kx⟩
      · rw [hP', length_insAt, hP]
      · rw [hP']; exact sorted_ins hs
      · intro x hx
        rw [hP'] at hx
        rcases mem_insAt hx with rfl | hx
        · exact hm
        · exact hok x hx
  · rintro s' ⟨P, hb', hP, hs, hok, g', ho, hba⟩
    have g8 := (g'.freeze (x := "line") (a := a1) (ds := P.map Mail.dat) (ms' := []) rfl (by simp) (fun p hp => nomatch hp)).sub (bs' := [("line", .d (.list (P.map Mail.dat))), ("plain", .d (.list (P.map Mail.dat))), ("start", .d (.int (startOf told))), sgE]) (fun p hp => by
      simp at hp
      rcases hp with rfl | rfl | rfl | rfl <;> rfl)
    exact next s' _ P hP hs hok (g8.reX (X' := XS L (lcl L) [])) ho hba
end
end Mine
set_option maxRecDepth 100000
set_option linter.all false
namespace Mine
open PySem PySem.Spec PySem.Calls PyProof.Rows PySem.W
theorem Mail.Ok.codes {m : Mail} (h : m.Ok) : (∀ c ∈ m.text, okSign c) ∧ m.text.length ≤ 3 := by
  obtain ⟨a, b, c, ha, hb, hc, e⟩ := h.text
  have h6 : ∀ x ∈ signL, (∀ c ∈ x, okSign c) ∧ x.length ≤ 1 := by unfold okSign; decide
  have ha' := h6 a (List.mem_of_mem_take ha)
  have hb' := h6 b hb
  have hc' := h6 c hc
  rw [e]
  refine ⟨fun x hx => ?_, by simp; omega⟩
  simp at hx
  rcases hx with hx | hx | hx
  · exact ha'.1 x hx
  · exact hb'.1 x hx
  · exact hc'.1 x hx
theorem Mail.Ok.qok {m : Mail} (h : m.Ok) : qOk m.text = true := by
  obtain ⟨a, b, c, ha, hb, hc, e⟩ := h.text
  have mem : m.text ∈ qTexts a := by
    rw [e]
    exact List.mem_flatMap.mpr ⟨b, hb, List.mem_map.mpr ⟨c, hc, rfl⟩⟩
  have ha' : a = [97] ∨ a = [46] ∨ a = [10] ∨ a = [13] ∨ a = [45] := by simpa [signL] using ha
  rcases ha' with rfl | rfl | rfl | rfl | rfl
  · exact List.all_eq_true.mp qa _ mem
  · exact List.all_eq_true.mp qb _ mem
  · exact List.all_eq_true.mp qc _ mem
  · exact List.all_eq_true.mp qd _ mem
  · exact List.all_eq_true.mp qe _ mem
theorem Mail.Ok.quot {m : Mail} (h : m.Ok) : quotP m.text = some (sentP m.text) ∧ (∀ ps, subP code2 m.text.toArray [13, 10] 20 0 0 false [] = some ps → ps.flatten.length ≤ 12) ∧ (sentP m.text).length ≤ 6 := by
  have := h.qok
  unfold qOk at this
  simp only [Bool.and_eq_true, beq_iff_eq, decide_eq_true_eq] at this
  refine ⟨this.1.1, fun ps hp => ?_, this.2⟩
  have h2 := this.1.2
  rw [hp] at h2
  simpa using h2
theorem strOk_mkS {l : List Nat} (h : ∀ c ∈ l, c < 128) : PyData.strOk (mkS l) = true := by
  show (l.toArray.all (· < 0x110000)) = true
  rw [List.all_toArray]
  exact List.all_eq_true.mpr fun c hc => decide_eq_true (Nat.lt_trans (h c hc) (by decide))
theorem canLayAll_of {ds : List PyData} (h : ∀ d ∈ ds, d.canLay0 = true) : PyData.canLayAll0 ds = true := by
  induction ds with
  | nil => rfl
  | cons d r ih =>
    show (d.canLay0 && PyData.canLayAll0 r) = true
    rw [h d (by simp), ih fun x hx => h x (by simp [hx])]; rfl
theorem depthAll_of {ds : List PyData} {k : Nat} (h : ∀ d ∈ ds, d.depth ≤ k) : PyData.depthAll ds ≤ k := by
  induction ds with
  | nil => exact Nat.zero_le _
  | cons d r ih =>
    show max d.depth (PyData.depthAll r) ≤ k
    exact Nat.max_le.mpr ⟨h d (by simp), ih fun x hx => h x (by simp [hx])⟩
theorem shaped_list {ds : List PyData} (h : ∀ d ∈ ds, d.canLay0 = true ∧ d.depth ≤ 10) : SeqAt.shaped (.list ds) = true := by
  unfold SeqAt.shaped
  rw [Bool.and_eq_true]
  refine ⟨canLayAll_of fun d hd => (h d hd).1, decide_eq_true ?_⟩
  show PyData.depthAll ds + 1 ≤ 64
  have := depthAll_of fun d hd => (h d hd).2
  omega
theorem okSign_lt {c : Nat} (h : okSign c) : c < 128 := by
  unfold okSign at h
  simp at h
  omega
theorem Mail.Ok.lay {m : Mail} (h : m.Ok) : m.dat.canLay0 = true ∧ m.dat.depth ≤ 10 := by
  refine ⟨?_, ?_⟩
  · show (true && (true && (PyData.strOk (mkS m.text) && true))) = true
    rw [strOk_mkS fun c hc => okSign_lt (h.codes.1 c hc)]; rfl
  · show max 0 (max 0 (max 0 0)) + 1 ≤ 10
    decide
theorem eqv_self {d : PyData} (h : d.canLay0 = true) : PyData.eqv d d = true := PySem.SeqAt.eqv_refl d h
theorem sentGo_ok : ∀ (x out : List Nat) (f : Bool) (a : List Nat), (∀ c ∈ x, okSign c) → (∀ c ∈ out, okSign c) → ∀ c ∈ sentGo x out f a, okSign c
  | [], _, _, _, _, ho => ho
  | c :: r, out, f, a, hx, ho => by
    unfold sentGo
    have h13 : okSign 13 := by unfold okSign; decide
    have h10 : okSign 10 := by unfold okSign; decide
    have h46 : okSign 46 := by unfold okSign; decide
    split
    · refine sentGo_ok r _ _ _ (fun c hc => hx c (by simp [hc])) fun y hy => ?_
      split at hy
      · exact ho y hy
      · simp at hy
        rcases hy with hy | rfl | rfl
        · exact ho y hy
        · exact h13
        · exact h10
    · refine sentGo_ok r _ _ _ (fun c hc => hx c (by simp [hc])) fun y hy => ?_
      rcases List.mem_append.mp hy with hy | hy
      · exact ho y hy
      · split at hy
        · simp at hy; subst hy; exact h46
        · simp at hy; subst hy; exact hx y (by simp)
theorem sentP_ok {x : List Nat} (h : ∀ c ∈ x, okSign c) : ∀ c ∈ sentP x, okSign c := sentGo_ok x [] true [] h (fun _ h => nomatch h)
section
variable {h0 : Heap} {L : Addr} {cl : List (Str × Addr)} {X : Addr → Prop} {hb : Heap} {bs : List (Str × Ent)} {ms : List (Addr × List PyData)} {pl : Pl} {h h' : Heap}
/- the frame's object itself may turn, its names stay -/
theorem LF.slots (S : LS h0 L cl X ms pl) (g : LF h0 L cl X hb bs ms pl h) (k : KBut L h h') (n' : ∀ m, h.Ns L m → h'.Ns L m) : LF h0 L cl X hb bs ms pl h' := by
  obtain ⟨m, n, rb, hy⟩ := g.fr
  refine ⟨kp_but S.hL k g.kp, old_but S.hL k g.old, tabs_but S.tabs0 S.hL k g.tabs, kx_but S.xL k g.kx, ⟨m, n' m n, fun y e' he => ?_, hy⟩, fun y c hc => ?_, fun p hp => ?_, fun q hq => ?_⟩
  · obtain ⟨v', e1, e2⟩ := rb y e' he
    refine ⟨v', ?_, e2.up fun _ _ _ r _ => rds_but n k r⟩
    unfold Holds at e1 ⊢
    cases hc : cl.lookup y with
    | none => rw [hc] at e1; exact e1
    | some c =>
      rw [hc] at e1
      obtain ⟨o, ho, hd⟩ := e1
      exact ⟨o, k _ _ (Nat.ne_of_gt (S.hc _ _ hc)) ho, hd⟩
  · obtain ⟨v', o, ho, hd⟩ := g.cells y c hc
    exact ⟨v', o, k _ _ (Nat.ne_of_gt (S.hc _ _ hc)) ho, hd⟩
  · obtain ⟨items, n', e1, r1, f1⟩ := g.muts p hp
    exact ⟨items, n', k _ _ (fun h => listO_dict (h ▸ e1) n) e1, rdsAll_but n k r1, f1⟩
  · obtain ⟨P, f⟩ := g.pile q hq
    refine ⟨pile_but (a := L) (fun h => pile_ns P (h ▸ n)) (fun dx u n1 h => ?_) (fun items r => rdsAll_but n k r) k P, f⟩
    obtain ⟨y, w, h1, h2⟩ := hy q hq
    have := ns_fn (h ▸ n) n1 y
    rw [h2, if_neg h1] at this
    cases this
end
end Mine
set_option maxRecDepth 100000
set_option linter.all false
namespace Mine
open PySem PySem.Spec PySem.Calls PyProof.Rows PySem.W
section
variable {w : World} {A : Around} {s : Shared} {E : Value → Shared → Prop}
variable {h0 : Heap} {L : Addr} {hb : Heap} {pm : Value} {X : Addr → Prop} {ms : List (Addr × List PyData)} {pl : Pl}
noncomputable abbrev bsB (st : Int) (P : List Mail) : List (Str × Ent) := [("line", .d (.list (P.map Mail.dat))), ("plain", .d (.list (P.map Mail.dat))), ("start", .d (.int st)), sgE]
noncomputable abbrev scR : Scope := ⟨.function, [(".0", .local), ("late", .local), ("_law_refused", .globalImplicit), ("line", .free), ("plain", .free), ("start", .free)], false, false, []⟩
noncomputable abbrev clR (L : Addr) : List (Str × Addr) := [("start", L+1), ("plain", L+3), ("line", L+2)]
/- _law_refused(line, plain[0], -1 - start, late) -/
theorem refusedElt {C : Addr} {P : List Mail} {m0 : Mail} {P' : List Mail} {st : Int} {b : Bool} {p1 p2 p3 p4 p5 p6 p7 p8 p9 p10 p11 : Pos} {k1 k2 : Nat} {Q : Value → Shared → Prop} (hA : Room 6 A) (hfr : A.frames = some [lenv pm L]) (S : LS h0 L (lcl L) X ms pl) (hP : P = m0 :: P') (hP6 : P.length = 6) (hok : ∀ m ∈ P, m.Ok) (hst : 0 ≤ st)
    (g : LF h0 L (lcl L) X hb (bsB st P) ms pl s.heap) (hlb : LB C [("late", .bool b)] s.heap)
    (hQ : ∀ h' tk, KBut L s.heap h' → (∀ m, s.heap.Ns L m → h'.Ns L m) → Q (.bool true) { s with heap := h', toks := tk }) :
    wpAny (model thePr w) A (eval (.Call (.Name "_law_refused" p1) [.Name "line" p2, .Subscript (.Name "plain" p3) (.Constant (.int 0) k1 p4) p5, .BinOp (.UnaryOp .USub (.Constant (.int 1) k2 p6) p7) .Sub (.Name "start" p8) p9, .Name "late" p10] [] p11) (compEnvC scR (clR L) C (lenv pm L))) Q E s := by
  have h1000 : 1000 ≤ sizeLine := by decide
  have hlayP : ∀ d ∈ P.map Mail.dat, d.canLay0 = true ∧ d.depth ≤ 10 := fun d hd => by
    obtain ⟨m, hm, rfl⟩ := List.mem_map.mp hd
    exact (hok m hm).lay
  refine wp_callR (G := fun h => LF h0 L (lcl L) X hb (bsB st P) ms pl h ∧ LB C [("late", .bool b)] h) mono_LC ⟨g, hlb⟩ (NV.gc S) (KPr.base fun h g => (g.1.base S).rfsd)
    (AR.ev mono_LC EV.nc (AR.ev mono_LC (EV.item (ds := P.map Mail.dat) (k := 0) (d := m0.dat) mono_LC (by decide) (by decide) (by rw [hP]; rfl) EV.nc EV.int) (AR.ev mono_LC (EV.sub mono_LC (EV.neg EV.int) EV.nc) (AR.ev mono_LC (EV.cx (d := .bool b)) .nil)))) fun s1 vs k1 g1 r1 => ?_
  obtain ⟨v1, _, as1, rfl, r1, v2, _, as2, rfl, r2, v3, _, as3, rfl, r3, v4, _, as4, rfl, r4, rfl⟩ := r1
  refine rdsI r3 fun u3 => ?_
  first | refine rdsI r4 fun _ => ?_ | refine rdsS r4 fun _ => ?_ | refine rdsB r4 ?_ | refine rdsN r4 ?_
  obtain ⟨g1, _⟩ := g1
  obtain ⟨mL, nL, _⟩ := g1.fr
  have hbase : Base (erase s1.heap L) := S.base.kp fun b o e t => by
    rw [erase_ne (not_h0 S.hL e)]
    exact g1.kp b o e t
  refine refused_ok (L := L) (lenv := lenv pm L) (h1 := erase s1.heap L) (m := mL) (hA.le (by decide)) hbase (erase_stays _ _) (erase_self _ _) (by omega) hfr (by intro h; cases h) rfl nL r1 r2 rfl (flat_mails P) (by rw [List.length_map]; omega) (shaped_list hlayP) fun h' tk kb n' => ?_
  obtain ⟨h1, tk1, rfl, k1⟩ := k1
  exact hQ h' tk (fun b o hb e => kb b o hb (k1 _ _ e)) fun m hm => by rw [ns_uniq (ns_kp (.of_keep k1) hm) nL]; exact n'

theorem bool_at {i : Nat} {v : Value} (h : #[Value.bool true, Value.bool false][i]? = some v) : ∃ b, v = .bool b := by
  have : v ∈ #[Value.bool true, Value.bool false] := Array.mem_of_getElem? h
  simp at this
  rcases this with rfl | rfl
  · exact ⟨_, rfl⟩
  · exact ⟨_, rfl⟩
set_option maxHeartbeats 1000000 in
/- [_law_refused(..) for late in (True, False)] -/
theorem refusedComp {P : List Mail} {m0 : Mail} {P' : List Mail} {st : Int} {p1 p2 p3 p4 p5 p6 p7 p8 p9 p10 p11 pt1 pt2 pt3 pl1 pos : Pos} {k1 k2 k3 k4 k5 : Nat} {Q : Value → Shared → Prop} (hA : Room 6 A) (hfr : A.frames = some [lenv pm L]) (S : LS h0 L (lcl L) X ms pl) (hP : P = m0 :: P') (hP6 : P.length = 6) (hok : ∀ m ∈ P, m.Ok) (hst : 0 ≤ st)
    (g : LF h0 L (lcl L) X hb (bsB st P) ms pl s.heap)
    (hQ : ∀ v as h' tk, Rds h' v (.list [.bool true, .bool true]) as → LF h0 L (lcl L) X hb (bsB st P) ms pl h' → Q v { s with heap := h', toks := tk }) :
    wpAny (model thePr w) A (eval (.ListComp (.Call (.Name "_law_refused" p1) [.Name "line" p2, .Subscript (.Name "plain" p3) (.Constant (.int 0) k1 p4) p5, .BinOp (.UnaryOp .USub (.Constant (.int 1) k2 p6) p7) .Sub (.Name "start" p8) p9, .Name "late" p10] [] p11)
      [⟨.Name "late" pl1, .Tuple [.Constant (.bool true) k3 pt1, .Constant (.bool false) k4 pt2] k5 pt3, [], 0⟩] scR pos) (lenv pm L)) Q E s := by
  rw [eval_ListComp]
  refine wpAny_comprehension_free (use := none) (cl := clR L) rfl (fun _ => rfl) rfl rfl (by decide) ?_
  refine ev_goK ((EV.tuple (w := w) (A := A) (env := lenv pm L) (G := LF h0 L (lcl L) X hb (bsB st P) ms pl) (f := true) (k := k5) (pos := pt3) (.cons mono_LF (EV.bool (b := true) (k := k3) (pos := pt1)) (.cons mono_LF (EV.bool (b := false) (k := k4) (pos := pt2)) .nil)) (show 2 ≤ sizeLine by decide)) s E g) fun xv as h1 tk1 r k₁ => ?_
  refine rdsT2 r fun a n x1z x2z b1z b2z ho ra rb => ?_
  revert ho
  refine rdsB ra (rdsB rb fun ho => ?_)
  replace ho : h1.get? a = some (tupO #[.bool true, .bool false] n) := ho
  replace k₁ : Kf s.heap h1 := k₁
  have g₁ := g.kf k₁
  have hl : h1.IsTuple a #[.bool true, .bool false] := ⟨_, ho, rfl, _, rfl⟩
  obtain ⟨mL, nL, _⟩ := g.fr
  have hLlt : L < s.heap.objs.size := nL.lt
  have hLh1 : L < h1.objs.size := by
    obtain ⟨o, _, _, e, _⟩ := nL
    exact Heap.lt_size (k₁ _ _ e)
  have haL : a ≠ L := fun h => by
    obtain ⟨o, _, _, e, hd, _⟩ := nL
    have := k₁ _ _ e
    rw [← h, ho] at this; cases this; cases hd
  refine wpAny_pyIter_tuple hl ?_
  generalize hH1 : h1.push { cls := .type "tuple_iterator", data := .fields #[.ref a, .int 0 0] } = H1
  have hI : h1.objs.size ≠ a := Ne.symm (Nat.ne_of_lt (Heap.lt_size ho))
  generalize hIi : h1.objs.size = I at hI hLh1
  have kH1 : Kf h1 H1 := fun b o e => by rw [← hH1]; exact Heap.get?_push_of_some _ e
  have hitI : H1.IsTupleIter I a 0 := ⟨_, by rw [← hH1, ← hIi]; exact Heap.get?_push_size _ rfl, rfl, rfl⟩
  have sH1 : H1.objs.size = I + 1 := by rw [← hH1, Heap.size_push, hIi]
  refine wpAny_newObj_type (wpAny_newFunctionEnv (by decide) (by intro y hy; simp at hy) (fun h₂ hns₂ hsb₂ => ?_) rfl)
  dsimp only at hns₂ hsb₂ ⊢
  generalize hH2 : H1.push { cls := .type "list", dict := none, data := .seq ([] : List Value).toArray } = H2 at hns₂ hsb₂ ⊢
  have kH2 : Kf H1 H2 := fun b o e => by rw [← hH2]; exact Heap.get?_push_of_some _ e
  have sH2 : H2.objs.size = I + 2 := by rw [← hH2, Heap.size_push, sH1]
  have hD2 : H2.get? (I + 1) = some (listO #[] 0) := by rw [← hH2, ← sH1]; exact Heap.get?_push_size _ rfl
  rw [sH2] at hns₂ hsb₂ ⊢
  rw [sH1]
  have old₂ : Kf h1 h₂ := fun b o e => hsb₂.extBut b o (by have := Heap.lt_size e; rw [hIi] at this; exact Nat.ne_of_lt (Nat.lt_of_lt_of_le this (Nat.le_add_right _ 2))) (Heap.get?_push_of_some _ (kH2 _ _ (kH1 _ _ e)))
  have hit₂ : h₂.IsTupleIter I a 0 := by
    obtain ⟨o, e, r⟩ := hitI
    exact ⟨o, hsb₂.extBut _ _ (Nat.ne_of_lt (Nat.lt_add_of_pos_right (by decide))) (Heap.get?_push_of_some _ (kH2 _ _ e)), r⟩
  have hD₂ : h₂.get? (I + 1) = some (listO #[] 0) := hsb₂.extBut _ _ (Nat.ne_of_lt (Nat.lt_succ_self _)) (Heap.get?_push_of_some _ hD2)
  have W := Walks.tuple (prog := thePr) (w := w) (A := A) hA.handled I a (Ne.symm hI) #[.bool true, .bool false]
  have notS : ∀ b, I ≤ b → s.heap.get? b = none := fun b hb => by
    cases e : s.heap.get? b with
    | none => rfl
    | some o => exact absurd (Heap.lt_size (k₁ _ _ e)) (Nat.not_lt.mpr (hIi ▸ hb))
  have loop : ∀ s₃ : Shared, s₃ = { s with heap := h₂, toks := tk1 } →
      codeAny (model thePr w) A (.compLoop (.ListComp (.Call (.Name "_law_refused" p1) [.Name "line" p2, .Subscript (.Name "plain" p3) (.Constant (.int 0) k1 p4) p5, .BinOp (.UnaryOp .USub (.Constant (.int 1) k2 p6) p7) .Sub (.Name "start" p8) p9, .Name "late" p10] [] p11)
        [⟨.Name "late" pl1, .Tuple [.Constant (.bool true) k3 pt1, .Constant (.bool false) k4 pt2] k5 pt3, [], 0⟩] scR pos) 0 (.ref I) (.ref (I + 1)) (compEnvC scR (clR L) (I + 2) (lenv pm L)))
        (compPost (model thePr w) A E none Q (.ref (I + 1)) (I + 2)) s₃ := by
    rintro s₃ rfl
    refine compLoop (fun k s' => ∃ H tk m n i, s' = { s with heap := H, toks := tk } ∧ i ≤ 2 ∧ k = 3 - i ∧ (H.IsTupleIter I a i ∧ H.IsTuple a #[.bool true, .bool false]) ∧ H.get? (I + 1) = some (listO (List.replicate i (Value.bool true)).toArray n) ∧ H.Ns (I + 2) m ∧
        KBut L s.heap H ∧ H.Ns L mL) ?_ 3 ⟨h₂, _, _, 0, 0, rfl, Nat.zero_le _, rfl, ⟨hit₂, ⟨_, old₂ _ _ ho, rfl, _, rfl⟩⟩, hD₂, hns₂, fun b o _ e => old₂ _ _ (k₁ _ _ e), ns_kp (.of_keep (Kf.trans k₁ old₂)) nL⟩
    rintro k s' ⟨H, tk, m, n, i, rfl, hi, rfl, hst', hD, hn, kL, nH⟩
    have hIL : I ≠ L := Ne.symm (Nat.ne_of_lt hLh1)
    have hDL : I + 1 ≠ L := fun h => by rw [← h] at hLh1; exact absurd hLh1 (Nat.not_lt.mpr (Nat.le_succ _))
    have hCL : I + 2 ≠ L := fun h => by rw [← h] at hLh1; exact absurd hLh1 (Nat.not_lt.mpr (Nat.le_add_right _ 2))
    have off : ∀ b o, s.heap.get? b = some o → b ≠ I ∧ b ≠ I + 1 ∧ b ≠ I + 2 := fun b o e => by
      refine ⟨?_, ?_, ?_⟩ <;> rintro rfl
      · rw [notS _ (Nat.le_refl _)] at e; cases e
      · rw [notS _ (Nat.le_succ _)] at e; cases e
      · rw [notS _ (Nat.le_add_right _ 2)] at e; cases e
    have haI : a < I := by rw [← hIi]; exact Heap.lt_size ho
    have lf : ∀ H : Heap, KBut L s.heap H → H.Ns L mL → LF h0 L (lcl L) X hb (bsB st P) ms pl H := fun H kL nH => g.slots S kL fun m hm => by rw [ns_uniq hm nL]; exact nH
    by_cases hlt : i < 2
    · refine W.item i _ _ _ hlt hst' fun v h₃ tk₃ hPv hst₃ hk₃ => ?_
      obtain ⟨b, rfl⟩ := bool_at hPv
      obtain ⟨oi, hoi, hci, hdi⟩ := id hst₃.1
      refine letOwned_off hoi hci (by decide) ?_
      have hk3 : ∀ c o, c ≠ I → H.get? c = some o → h₃.get? c = some o := fun c o hc e => hk₃ c o (by simpa using hc) e
      have nC3 : h₃.Ns (I + 2) m := hn.at' fun o e => hk3 _ o (by omega) e
      refine (Asg.name (w := w) (A := A) (env := compEnvC scR (clR L) (I + 2) (lenv pm L)) rfl rfl) _ _ _ (.bool b) [] m (.bool b) nC3 fun h₄ tk₄ hb₄ hk₄ => ?_
      replace hk₄ : ∀ c o, c ≠ I + 2 → h₃.get? c = some o → h₄.get? c = some o := hk₄
      refine wpAny_tests_nil ?_
      rw [if_pos rfl]
      have kL4 : KBut L s.heap h₄ := fun c o hc e => hk₄ c o (off c o e).2.2 (hk3 c o (off c o e).1 (kL c o hc e))
      have nL4 : h₄.Ns L mL := nH.at' fun o e => hk₄ _ o (Ne.symm hCL) (hk3 _ o (Ne.symm hIL) e)
      refine refusedElt (s := { s with heap := h₄, toks := tk₄ }) (b := b) hA hfr S hP hP6 hok hst (lf h₄ kL4 nL4) hb₄ fun h₅ tk₅ kb₅ nb₅ => ?_
      replace kb₅ : KBut L h₄ h₅ := kb₅
      have hD₅ : h₅.get? (I + 1) = some (listO (List.replicate i (Value.bool true)).toArray n) := kb₅ _ _ hDL (hk₄ _ _ (by omega) (hk3 _ _ (by omega) hD))
      refine wpAny_list_append_plain (hsz := by simp; have : 2 ≤ sizeLine := by decide
                                                omega) (l := I + 1) (items := (List.replicate i (Value.bool true)).toArray) ⟨n, hD₅⟩ fun h₆ hl₆ hs₆ => ?_
      obtain ⟨n₆, hl₆⟩ := hl₆
      obtain ⟨m', n4, _⟩ := hb₄
      refine ⟨3 - (i + 1), by omega, h₆, tk₅, m', n₆, i + 1, rfl, hlt, rfl, ⟨?_, ?_⟩, ?_, ?_, fun c o hc e => hs₆.extBut c o (off c o e).2.1 (kb₅ c o hc (kL4 c o hc e)), (nb₅ _ nL4).at' fun o e => hs₆.extBut _ o (Ne.symm hDL) e⟩
      · obtain ⟨o, e, r⟩ := hst₃.1
        exact ⟨o, hs₆.extBut _ _ (Nat.ne_of_lt (Nat.lt_succ_self I)) (kb₅ _ _ hIL (hk₄ _ _ (Nat.ne_of_lt (Nat.lt_add_of_pos_right (by decide))) e)), r⟩
      · obtain ⟨o, e, r⟩ := hst₃.2
        exact ⟨o, hs₆.extBut _ _ (Nat.ne_of_lt (Nat.lt_succ_of_lt haI)) (kb₅ _ _ haL (hk₄ _ _ (Nat.ne_of_lt (Nat.lt_succ_of_lt (Nat.lt_succ_of_lt haI))) e)), r⟩
      · have e : (List.replicate i (Value.bool true)).toArray.push (.bool true) = (List.replicate (i + 1) (Value.bool true)).toArray := by rw [List.push_toArray, ← List.replicate_succ']
        rw [hl₆, e]
      · exact n4.at' fun o e => hs₆.extBut _ o (Nat.ne_of_gt (Nat.lt_succ_self (I + 1))) (kb₅ _ o hCL e)
    · have hi2 : i = 2 := by omega
      subst hi2
      refine W.done _ _ _ hst' fun h₃ tk₃ hk₃ => ?_
      have hk3 : ∀ c o, c ≠ I → H.get? c = some o → h₃.get? c = some o := fun c o hc e => hk₃ c o (by simpa using hc) e
      refine ⟨m, hn.at' fun o e => hk3 _ o (by omega) e, fun h' hs' => ?_⟩
      have hD' : h'.get? (I + 1) = some (listO #[.bool true, .bool true] n) := hs'.extBut _ _ (Nat.ne_of_lt (Nat.lt_succ_self (I + 1))) (hk3 _ _ (Nat.ne_of_gt (Nat.lt_succ_self I)) hD)
      exact hQ _ _ h' tk₃ (.list hD' (.cons (.bool _) (.cons (.bool _) .nil))) (lf h' (fun c o hc e => hs'.extBut c o (off c o e).2.2 (hk3 c o (off c o e).1 (kL c o hc e))) (nH.at' fun o e => hs'.extBut _ o (Ne.symm hCL) (hk3 _ o (Ne.symm hIL) e)))
  exact codeAny_compStart_list (loop _ rfl) (W.self 0 _ _ _ ⟨hit₂, ⟨_, old₂ _ _ ho, rfl, _, rfl⟩⟩ (loop _ rfl))
end
end Mine
set_option maxRecDepth 100000
set_option linter.all false
namespace Mine
open PySem PySem.Spec PySem.Calls PyProof.Rows PySem.W
theorem idxOf_sorted {d : Int} : ∀ {D : List Int}, D.Pairwise (· ≤ ·) → d ∈ D → D.idxOf d = (D.filter (fun x => decide (x < d))).length
  | a :: r, hs, hd => by
    obtain ⟨h1, h2⟩ := List.pairwise_cons.mp hs
    by_cases h : a = d
    · subst h
      rw [List.idxOf_cons_self, List.filter_eq_nil_iff.mpr]
      · rfl
      · intro x hx
        rcases List.mem_cons.mp hx with rfl | hx
        · simp
        · have := h1 x hx
          simp; omega
    · have hr : d ∈ r := by
        rcases List.mem_cons.mp hd with h' | h'
        · exact absurd h'.symm h
        · exact h'
      have := h1 d hr
      have hlt : a < d := by omega
      have hb : (a == d) = false := by simpa using h
      rw [List.idxOf_cons, hb, List.filter_cons_of_pos (by simpa using hlt), List.length_cons, ← idxOf_sorted h2 hr]
      rfl
section
variable {w : World} {A : Around} {s : Shared} {E : Value → Shared → Prop} {Q : Flow → Shared → Prop}
variable {h0 : Heap} {L : Addr} {hb : Heap} {pm : Value} {X : Addr → Prop} {ms : List (Addr × List PyData)} {pl : Pl}
theorem layP {P : List Mail} (hok : ∀ m ∈ P, m.Ok) : SeqAt.shaped (.list (P.map Mail.dat)) = true := shaped_list fun d hd => by
  obtain ⟨m, hm, rfl⟩ := List.mem_map.mp hd
  exact (hok m hm).lay
/- the line, and what is refused -/
theorem walk5 {P : List Mail} {st : Int} (hA : Room 6 A) (hfr : A.frames = some [lenv pm L]) (S : LS h0 L (lcl L) X ms pl) (hP6 : P.length = 6) (hok : ∀ m ∈ P, m.Ok) (hst : 0 ≤ st)
    (g : LF h0 L (lcl L) X hb (bsB st P) ms pl s.heap)
    (next : ∀ h' tk, LF h0 L (lcl L) X hb (bsB st P) ms pl h' → wpAny (model thePr w) A (execs (lawB.drop 6) (lenv pm L)) Q E { s with heap := h', toks := tk }) :
    wpAny (model thePr w) A (execs (lawB.drop 5) (lenv pm L)) Q E s := by
  have hu : A.units + 64 < cLine := by have := hA.units; omega
  obtain ⟨m0, P', hP⟩ : ∃ m0 P', P = m0 :: P' := by
    cases P with
    | nil => simp at hP6
    | cons a r => exact ⟨a, r, rfl⟩
  have hself : PyData.eqv (.list (P.map Mail.dat)) (.list (P.map Mail.dat)) = true := eqv_self (SeqAt.canLay_of_shaped (layP hok))
  refine wpAny_execs_cons (wpAny_If ?_)
  refine isTrue_or (wpAny_mono ((TV.ned mono_LF hu (layP hok) (layP hok) EV.n EV.n rfl) s _ g) (fun v s₁ h₁ => ?_) fun _ _ x => x)
  obtain ⟨rfl, h1, tk1, rfl, k₁⟩ := h₁
  rw [hself]
  rw [if_neg (by decide)]
  have g1 := g.kf k₁
  refine isTrue_or (wpAny_isTrue_Compare1 (refusedComp hA hfr S hP hP6 hok hst g1 fun v as h2 tk2 r2 g2 => ?_))
  refine ev_goK (EV.list (w := w) (f := true) (.cons mono_LF (EV.bool (b := true)) (.cons mono_LF (EV.bool (b := true)) .nil)) (show 2 ≤ sizeLine by decide) _ _ g2) fun v2 as2 h3 tk3 r3 k₃ => ?_
  have sh2 : SeqAt.shaped (.list [.bool true, .bool true]) = true := by decide
  have r2' := rds_kp (.of_keep k₃) r2
  refine SeqAt.compareNe_shaped r2'.reads r3.reads sh2 sh2 hu (wpAny_truthy_bool ?_)
  have e2 : (!PyData.eqv (.list [.bool true, .bool true]) (.list [.bool true, .bool true])) = false := by decide
  rw [e2, if_neg (by decide)]
  refine isTrue_or_nil ?_
  rw [if_neg (by decide)]
  exact wpAny_execs_nil (next h3 tk3 (g2.kf k₃))

/- for due, k, text in plain: a comprehension's assignments -/
theorem asgM {scope : Scope} {cl' : List (Str × Addr)} {C : Addr} {m : Mail} {p1 p2 p3 p4 : Pos} {kk : Nat} (hh : A.handled = none) (h1 : (compEnvC scope cl' C (lenv pm L)).kindOf "due" = some .local) (h2 : (compEnvC scope cl' C (lenv pm L)).kindOf "k" = some .local) (h3 : (compEnvC scope cl' C (lenv pm L)).kindOf "text" = some .local) (hk : scope.kind = .function) :
    Asg w A (compEnvC scope cl' C (lenv pm L)) (.Tuple [.Name "due" p1, .Name "k" p2, .Name "text" p3] kk p4) m.dat [("due", .int m.due), ("k", .int m.k), ("text", .str (mkS m.text))] :=
  Asg.tuple3 hh h1 h2 h3 (by decide) (by decide) (by decide) (by show (scope.kind == .class || (scope.kind == .module && _)) = false; rw [hk]; rfl)
noncomputable def mailFn {α : Type} (f : Mail → α) (z : α) : PyData → α | .tuple [.int d, .int k, .str t] => f ⟨d, k, t.cps.toList⟩ | _ => z
theorem mailFn_dat {α : Type} (f : Mail → α) (z : α) (m : Mail) : mailFn f z m.dat = f m := by
  show f ⟨m.due, m.k, (mkS m.text).cps.toList⟩ = f m
  have : (mkS m.text).cps.toList = m.text := by show m.text.toArray.toList = _; simp
  rw [this]
theorem map_mailFn {α : Type} (f : Mail → α) (z : α) (P : List Mail) : (((P.map Mail.dat).filter fun _ => true).map (mailFn f z)) = P.map f := by
  rw [List.filter_eq_self.mpr (fun _ _ => rfl), List.map_map]
  exact List.map_congr_left fun m _ => mailFn_dat f z m
/- [elt for due, k, text in plain] -/
theorem ev_mails {scope : Scope} {cl' : List (Str × Addr)} {P : List Mail} {bs : List (Str × Ent)} {elt : Expr} {p1 p2 p3 p4 pp pos : Pos} {kk : Nat} (f : Mail → PyData) (hA : Room 6 A) (hpl : bs.lookup ("plain" : Str) = some (.d (.list (P.map Mail.dat)))) (hlen : P.length = 6)
    (hclos : closureFor scope (lenv pm L) = pure cl') (hcell : ∀ y ∈ scope.names, y.2 ≠ .cell) (hkind : scope.kind = .function) (hnames : ∀ y ∈ scope.names, y.2 = .local → scope.names.lookup y.1 = some .local)
    (h1 : ∀ C, (compEnvC scope cl' C (lenv pm L)).kindOf "due" = some .local) (h2 : ∀ C, (compEnvC scope cl' C (lenv pm L)).kindOf "k" = some .local) (h3 : ∀ C, (compEnvC scope cl' C (lenv pm L)).kindOf "text" = some .local)
    (he : ∀ C m, m ∈ P → ∃ fl, EV w A (compEnvC scope cl' C (lenv pm L)) (fun h => LF h0 L (lcl L) X hb bs ms pl h ∧ LB C [("due", .int m.due), ("k", .int m.k), ("text", .str (mkS m.text))] h) fl elt (f m))
    (hfl : ∀ m ∈ P, flat (f m) = true) :
    EV w A (lenv pm L) (LF h0 L (lcl L) X hb bs ms pl) true (.ListComp elt [⟨.Tuple [.Name "due" p1, .Name "k" p2, .Name "text" p3] kk p4, .Name "plain" pp, [], 0⟩] scope pos) (.list (P.map f)) := by
  have h1000 : 1000 ≤ sizeLine := by decide
  refine EV.cast (congrArg PyData.list (map_mailFn f .none P)) (EV.comp (cl := cl') mono_LF (IT.list hA.handled (EV.n hpl)) hclos hcell hkind hnames (fun d => mailFn (fun m => [("due", .int m.due), ("k", .int m.k), ("text", .str (mkS m.text))]) [] d) ?_ (fun _ => true) (mailFn f .none) (fun C d hd => TVs.nil) ?_ ?_ ?_)
  · intro C d hd
    obtain ⟨m, hm, rfl⟩ := List.mem_map.mp hd
    rw [mailFn_dat]
    exact asgM hA.handled (h1 C) (h2 C) (h3 C) hkind
  · intro C d hd _
    obtain ⟨m, hm, rfl⟩ := List.mem_map.mp hd
    rw [mailFn_dat, mailFn_dat]
    exact he C m hm
  · intro d hd _
    obtain ⟨m, hm, rfl⟩ := List.mem_map.mp hd
    rw [mailFn_dat]
    exact hfl m hm
  · rw [List.length_map]; omega
/- dues -/
theorem walk6 {P : List Mail} {st : Int} (hA : Room 6 A) (S : LS h0 L (lcl L) X ms pl) (hP6 : P.length = 6)
    (g : LF h0 L (lcl L) X hb (bsB st P) ms pl s.heap)
    (next : ∀ h' tk, LF h0 L (lcl L) X hb (("dues", .d (.list ((P.map Mail.due).map .int))) :: bsB st P) ms pl h' → wpAny (model thePr w) A (execs (lawB.drop 7) (lenv pm L)) Q E { s with heap := h', toks := tk }) :
    wpAny (model thePr w) A (execs (lawB.drop 6) (lenv pm L)) Q E s := by
  refine st_asg (x := "dues") (d := .list ((P.map Mail.due).map .int)) (f := true) S g rfl rfl (.inr ⟨_, rfl, rfl, rfl⟩) ?_ (.inl rfl) rfl fun h1 tk1 g1 => next h1 tk1 g1
  rw [List.map_map]
  exact ev_mails (cl' := []) (fun m => .int m.due) hA rfl hP6 rfl (by decide) rfl (by decide) (fun _ => rfl) (fun _ => rfl) (fun _ => rfl) (fun C m hm => ⟨false, EV.cx⟩) (fun _ _ => rfl)
end
end Mine
set_option maxRecDepth 100000
set_option linter.all false
namespace Mine
open PySem PySem.Spec PySem.Calls PyProof.Rows PySem.W
noncomputable def intFn {α : Type} (f : Int → α) (z : α) : PyData → α | .int i => f i | _ => z
theorem map_intFn {α : Type} (f : Int → α) (z : α) (D : List Int) : (((D.map PyData.int).filter fun _ => true).map (intFn f z)) = D.map f := by
  rw [List.filter_eq_self.mpr (fun _ _ => rfl), List.map_map]; rfl
theorem filter_intFn (q : Int → Bool) (D : List Int) : ((D.map PyData.int).filter (intFn q false)).map (fun d => d) = (D.filter q).map .int := by
  rw [List.map_id', List.filter_map]; rfl
theorem shaped_ints (D : List Int) : SeqAt.shaped (.list (D.map .int)) = true := shaped_list fun d hd => by
  obtain ⟨i, _, rfl⟩ := List.mem_map.mp hd
  exact ⟨rfl, Nat.zero_le _⟩
theorem flat_ints (D : List Int) : flatAll (D.map .int) = true := flatAll_of fun d hd => by obtain ⟨i, _, rfl⟩ := List.mem_map.mp hd; rfl
section
variable {w : World} {A : Around} {s : Shared} {E : Value → Shared → Prop} {Q : Flow → Shared → Prop}
variable {h0 : Heap} {L : Addr} {hb : Heap} {pm : Value} {X : Addr → Prop} {ms : List (Addr × List PyData)} {pl : Pl} {bs : List (Str × Ent)}
/- [elt for x in ints if tests] -/
theorem ev_ints {scope : Scope} {cl' : List (Str × Addr)} {D : List Int} {elt iter : Expr} {x : Str} {px pos : Pos} (f : Int → PyData) (hA : Room 6 A) (hit : IT w A (lenv pm L) (LF h0 L (lcl L) X hb bs ms pl) iter (D.map .int)) (hlen : D.length ≤ 1000)
    (hclos : closureFor scope (lenv pm L) = pure cl') (hcell : ∀ y ∈ scope.names, y.2 ≠ .cell) (hkind : scope.kind = .function) (hnames : ∀ y ∈ scope.names, y.2 = .local → scope.names.lookup y.1 = some .local)
    (h1 : ∀ C, (compEnvC scope cl' C (lenv pm L)).kindOf x = some .local)
    (he : ∀ C i, i ∈ D → ∃ fl, EV w A (compEnvC scope cl' C (lenv pm L)) (fun h => LF h0 L (lcl L) X hb bs ms pl h ∧ LB C [(x, .int i)] h) fl elt (f i))
    (hfl : ∀ i ∈ D, flat (f i) = true) (hs : ∀ y, foldedSetIterable iter (lenv pm L) y = pure y) :
    EV w A (lenv pm L) (LF h0 L (lcl L) X hb bs ms pl) true (.ListComp elt [⟨.Name x px, iter, [], 0⟩] scope pos) (.list (D.map f)) := by
  have h1000 : 1000 ≤ sizeLine := by decide
  refine EV.cast (congrArg PyData.list (map_intFn f .none D)) (EV.comp (cl := cl') mono_LF hit hclos hcell hkind hnames (fun d => [(x, d)]) ?_ (fun _ => true) (intFn f .none) (fun C d hd => TVs.nil) ?_ ?_ ?_ hs)
  · intro C d hd
    exact Asg.name (h1 C) (by show (scope.kind == .class || (scope.kind == .module && _)) = false; rw [hkind]; rfl)
  · intro C d hd _
    obtain ⟨i, hi, rfl⟩ := List.mem_map.mp hd
    exact he C i hi
  · intro d hd _
    obtain ⟨i, hi, rfl⟩ := List.mem_map.mp hd
    exact hfl i hi
  · rw [List.length_map]; omega
theorem TV.cast {env : Env} {G : Heap → Prop} {c : Expr} {b b' : Bool} (h : b = b') (x : TV w A env G c b) : TV w A env G c b' := h ▸ x
theorem bisl_cut {D : List Int} (hD : D.Pairwise (· ≤ ·)) {d : Int} (hd : d ∈ D) {lo : Nat} (hlo : lo ≤ D.length) :
    Cut (fun i => match D[i]? with | some x => !decide (x < d) | none => true) lo (max lo (D.idxOf d)) D.length := by
  have hq := idxOf_sorted hD hd
  obtain ⟨_, h2⟩ := cut_filter (fun x => decide (x < d)) D (hD.imp fun {a b} h => by simp; omega)
  rw [← hq] at h2
  have hlt : D.idxOf d < D.length := List.idxOf_lt_length_iff.mpr hd
  refine ⟨Nat.le_max_left _ _, Nat.max_le.mpr ⟨hlo, Nat.le_of_lt hlt⟩, fun i hi hm => ?_, fun i hm hi => ?_⟩
  · have hlt' : i < D.idxOf d := by omega
    have hx : D[i]? = some (D[i]'(by omega)) := by simp
    have := (h2 i _ hx).mpr hlt'
    simp only [hx]
    simpa using this
  · have hx : D[i]? = some D[i] := by simp
    have := (not_congr (h2 i _ hx)).mpr (by omega)
    simp only [hx]
    simpa using this
/- bisect_left(dues, due, 2 + start) -/
theorem walk7 {P : List Mail} {st : Nat} (hA : Room 6 A) (S : LS h0 L (lcl L) X ms pl) (hP6 : P.length = 6) (hs : SortedM P) (hst : st ≤ 3)
    (g : LF h0 L (lcl L) X hb (("dues", .d (.list ((P.map Mail.due).map .int))) :: bsB st P) ms pl s.heap)
    (next : ∀ h' tk, LF h0 L (lcl L) X hb (("dues", .d (.list ((P.map Mail.due).map .int))) :: bsB st P) ms pl h' → wpAny (model thePr w) A (execs (lawB.drop 8) (lenv pm L)) Q E { s with heap := h', toks := tk }) :
    wpAny (model thePr w) A (execs (lawB.drop 7) (lenv pm L)) Q E s := by
  have hu : A.units + 64 < cLine := by have := hA.units; omega
  generalize hD : P.map Mail.due = D at g next ⊢
  have hD6 : D.length = 6 := by rw [← hD, List.length_map, hP6]
  have hDs : D.Pairwise (· ≤ ·) := by rw [← hD]; exact List.pairwise_map.mpr hs
  refine st_if (b := false) g mono_LF ?_ fun s1 g1 k1 => ?_
  · have e : (!PyData.eqv (.list ((D.map fun d => ((max (2 + st) (D.idxOf d) : Nat) : Int)).map .int)) (.list ((D.map fun d => ((max (2 + st) (D.idxOf d) : Nat) : Int)).map .int))) = false := by
      rw [eqv_self (SeqAt.canLay_of_shaped (shaped_ints _))]; rfl
    refine TV.cast e ?_
    refine TV.ned mono_LF hu (shaped_ints _) (shaped_ints _) (f := true) (g := true) ?_ ?_ rfl
    · rw [List.map_map]
      refine ev_ints (cl' := [("start", L+1), ("dues", L+5)]) (fun d => .int ((max (2 + st) (D.idxOf d) : Nat) : Int)) hA (IT.list hA.handled EV.n) (by omega) rfl (by decide) rfl (by decide) (fun _ => rfl) (fun C d hd => ⟨true, ?_⟩) (fun _ _ => rfl) (fun _ => rfl)
      refine EV.call mono_LC (NV.gc S) (KPr.base fun h g => (g.1.base S).bisl) (.cons mono_LC (EV.weak (EV.nc (d := .list (D.map .int)))) (.cons mono_LC (EV.cx (d := .int d)) (.cons mono_LC (EV.weak (EV.cast (show PyData.int (2 + (st : Int)) = .int ((2 + st : Nat) : Int) by simp) (EV.add mono_LC EV.int EV.nc))) .nil))) fun s E vs as g r => ?_
      refine rds3 r fun x1z x2z x3z b1z b2z b3z r1 r2 r3 => ?_
      refine rdsI r3 fun u3 => ?_
      refine bisl3 (d := .int d) (ds := D.map .int) (kv := .none) (kw := []) (lo := 2 + st) (r := max (2 + st) (D.idxOf d)) (t := fun i => match D[i]? with | some x => !decide (x < d) | none => true) (hA.le (by decide)) (g.1.base S) (.inl ⟨rfl, rfl⟩) r1 r2 (.inl ⟨rfl, fun i e he _ => ?_⟩) (by rw [List.length_map]; omega) (by rw [List.length_map]; exact bisl_cut hDs hd (by omega)) fun h' tk u k => ⟨⟨[], .int _ _, fun _ h => nomatch h⟩, ⟨h', tk, rfl, k⟩⟩
      rw [List.getElem?_map] at he
      cases hx : D[i]? with
      | none => rw [hx] at he; simp at he
      | some x =>
        rw [hx] at he
        simp at he
        subst he
        simp only [Bool.not_not]
        exact LtD.int _ _
    · rw [List.map_map]
      refine ev_ints (cl' := [("start", L+1), ("dues", L+5)]) (fun d => .int ((max (2 + st) (D.idxOf d) : Nat) : Int)) hA (IT.list hA.handled EV.n) (by omega) rfl (by decide) rfl (by decide) (fun _ => rfl) (fun C d hd => ⟨true, ?_⟩) (fun _ _ => rfl) (fun _ => rfl)
      refine EV.cast (show PyData.int (max (2 + (st : Int)) ((D.idxOf d : Nat) : Int)) = .int ((max (2 + st) (D.idxOf d) : Nat) : Int) by congr 1; omega) ?_
      exact EV.max2 (b := true) mono_LC hA.handled (NV.bc S) (EV.add mono_LC EV.int EV.nc) (EV.index mono_LC (EV.nc (d := .list (D.map .int))) (EV.cx (d := .int d)) hd (by omega) rfl rfl) rfl rfl
  · obtain ⟨h1, tk1, rfl, k1⟩ := k1
    exact wpAny_execs_nil (next h1 tk1 g1)
end
end Mine
set_option maxRecDepth 100000
set_option linter.all false
namespace Mine
open PySem PySem.Spec PySem.Calls PyProof.Rows PySem.W
theorem slice_to (l : List Nat) (k : Nat) : StrLaws.sliceText (mkS l) none (some (k : Int)) = mkS (l.take k) := by
  have hl : (mkS l).cps.toList = l := by show l.toArray.toList = _; simp
  by_cases h : k ≤ l.length
  · rw [StrLaws.sliceText_to ⟨by omega, by rw [hl]; omega⟩, hl, List.drop_zero]
    show Str.mk _ = Str.mk _
    congr 3
  · have hn : (mkS l).length = l.length := mkS_len l
    have e : StrLaws.sliceText (mkS l) none (some (k : Int)) = StrLaws.sliceText (mkS l) none (some ((mkS l).length : Int)) := by
      unfold StrLaws.sliceText
      rw [sliceIdx_hi_beyond _ (by rw [hn]; omega)]
    rw [e, StrLaws.sliceText_to ⟨by omega, by rw [hl, hn]; omega⟩, hl, hn, List.drop_zero]
    show Str.mk _ = Str.mk _
    rw [List.take_of_length_le (by omega), List.take_of_length_le (by omega)]
theorem slice_from (l : List Nat) (k : Nat) : StrLaws.sliceText (mkS l) (some (k : Int)) none = mkS (l.drop k) := by
  have hl : (mkS l).cps.toList = l := by show l.toArray.toList = _; simp
  by_cases h : k ≤ l.length
  · rw [StrLaws.sliceText_from ⟨by omega, by rw [hl]; omega⟩, hl]
    show Str.mk _ = Str.mk _
    rw [List.take_of_length_le (by simp)]
    rfl
  · have hn : (mkS l).length = l.length := mkS_len l
    have e : StrLaws.sliceText (mkS l) (some (k : Int)) none = StrLaws.sliceText (mkS l) (some ((mkS l).length : Int)) none := by
      unfold StrLaws.sliceText
      rw [sliceIdx_lo_beyond _ (by rw [hn]; omega)]
    rw [e, StrLaws.sliceText_from ⟨by omega, by rw [hl, hn]; omega⟩, hl, hn]
    show Str.mk _ = Str.mk _
    rw [List.drop_of_length_le (show l.length ≤ k by omega), List.drop_of_length_le (by omega)]
    simp
theorem slice_post {x : Str} {t : Tok} {l u : Option (Int × Tok)} {Q : Value → Shared → Prop} {s : Shared} (hz : x.length ≤ sizeLine) (hQ : ∀ u' tk, Q (.str (StrLaws.sliceText x (l.map (·.1)) (u.map (·.1))) u') { s with toks := tk }) : (sliceMade x t l u none).post Q s := by
  have h0 := hQ t s.toks
  unfold StrLaws.sliceText at hQ h0
  unfold sliceMade slicePicked
  split
  · rename_i h
    rw [if_pos (by simpa using h)] at h0
    exact h0
  · rename_i h
    rw [if_neg (by simpa using h)] at hQ
    refine ⟨?_, hQ _ _⟩
    have := sliceIndices_le (l.map (·.1)) (u.map (·.1)) x.length
    have h2 : (List.filterMap (fun i => x.cps[i]?) (Builtin.Str.strSliceIndices (l.map (·.1)) (u.map (·.1)) 1 x.length)).length ≤ (Builtin.Str.strSliceIndices (l.map (·.1)) (u.map (·.1)) 1 x.length).length := List.length_filterMap_le _ _
    show (List.filterMap (fun i => x.cps[i]?) (Builtin.Str.strSliceIndices (l.map (·.1)) (u.map (·.1)) 1 x.length)).toArray.size ≤ sizeLine
    simp only [List.size_toArray]
    omega
section
variable {w : World} {A : Around} {env : Env} {G : Heap → Prop}
theorem EV.sliceTo (hm : Mono G) {f g : Bool} {x u : Expr} {p pos : Pos} {l : List Nat} {k : Nat} (hl : l.length ≤ 1000) (hx : EV w A env G f x (.str (mkS l))) (hu : EV w A env G g u (.int k)) :
    EV w A env G true (.Subscript x (.Slice none (some u) none p) pos) (.str (mkS (l.take k))) := by
  refine EV.new (f := false) ?_ rfl
  intro s E g
  have h1000 : 1000 ≤ sizeLine := by decide
  refine Subscript_ (ev_go (hx s E g) fun o s₁ as ra k₁ => ?_)
  cases ra with
  | str _ t =>
  refine wpAny_Slice (wpAny_pure (wpAny_mono (OE.some hu s₁ E (hm _ _ (kf_of k₁) g)) (fun vu s₂ h₂ => ?_) fun _ _ x => x))
  obtain ⟨pu, k₂⟩ := h₂
  refine wpAny_pure ?_
  cases pu with
  | int _ tu =>
  have kp1 := keeps_push s₂ { cls := .type "slice", data := .fields #[.none, .int k tu, .none] }
  refine tail_any (ops := [.ref s₂.heap.objs.size]) (T := "str") (typeIs_str _ _ _) PySem.F.slot_str_getitem.lookup (wpAny_getItem_str_slice (l := none) (u := some (k, tu)) (st := none) ⟨_, Heap.get?_push_size _ rfl, rfl, rfl⟩ rfl
    (slice_post (by rw [mkS_len]; omega) fun u' tk => ?_)) rfl
  show (∃ as, Rds _ (.str (StrLaws.sliceText (mkS l) none (some (k : Int))) u') _ as ∧ _) ∧ _
  rw [slice_to]
  exact ⟨⟨[], .str _ _, ff⟩, keeps_trans (keeps_trans (keeps_trans k₁ k₂) kp1) (keeps_toks _ _)⟩
theorem EV.sliceFrom (hm : Mono G) {f g : Bool} {x u : Expr} {p pos : Pos} {l : List Nat} {k : Nat} (hl : l.length ≤ 1000) (hx : EV w A env G f x (.str (mkS l))) (hu : EV w A env G g u (.int k)) :
    EV w A env G true (.Subscript x (.Slice (some u) none none p) pos) (.str (mkS (l.drop k))) := by
  refine EV.new (f := false) ?_ rfl
  intro s E g
  have h1000 : 1000 ≤ sizeLine := by decide
  refine Subscript_ (ev_go (hx s E g) fun o s₁ as ra k₁ => ?_)
  cases ra with
  | str _ t =>
  refine wpAny_Slice (wpAny_mono (OE.some hu s₁ E (hm _ _ (kf_of k₁) g)) (fun vu s₂ h₂ => ?_) fun _ _ x => x)
  obtain ⟨pu, k₂⟩ := h₂
  refine wpAny_pure (wpAny_pure ?_)
  cases pu with
  | int _ tu =>
  have kp1 := keeps_push s₂ { cls := .type "slice", data := .fields #[.int k tu, .none, .none] }
  refine tail_any (ops := [.ref s₂.heap.objs.size]) (T := "str") (typeIs_str _ _ _) PySem.F.slot_str_getitem.lookup (wpAny_getItem_str_slice (l := some (k, tu)) (u := none) (st := none) ⟨_, Heap.get?_push_size _ rfl, rfl, rfl⟩ rfl
    (slice_post (by rw [mkS_len]; omega) fun u' tk => ?_)) rfl
  show (∃ as, Rds _ (.str (StrLaws.sliceText (mkS l) (some (k : Int)) none) u') _ as ∧ _) ∧ _
  rw [slice_from]
  exact ⟨⟨[], .str _ _, ff⟩, keeps_trans (keeps_trans (keeps_trans k₁ k₂) kp1) (keeps_toks _ _)⟩
end
end Mine
set_option maxRecDepth 100000
set_option linter.all false
namespace Mine
open PySem PySem.Spec PySem.Calls PyProof.Rows PySem.W
noncomputable abbrev strD (l : List Nat) : PyData := .str (mkS l)
noncomputable def strFn {α : Type} (f : List Nat → α) (z : α) : PyData → α | .str t => f t.cps.toList | _ => z
theorem strFn_d {α : Type} (f : List Nat → α) (z : α) (l : List Nat) : strFn f z (strD l) = f l := by
  show f (mkS l).cps.toList = f l
  have : (mkS l).cps.toList = l := by show l.toArray.toList = _; simp
  rw [this]
theorem map_strFn {α : Type} (f : List Nat → α) (z : α) (T : List (List Nat)) : (((T.map strD).filter fun _ => true).map (strFn f z)) = T.map f := by
  rw [List.filter_eq_self.mpr (fun _ _ => rfl), List.map_map]
  exact List.map_congr_left fun m _ => strFn_d f z m
noncomputable def sentsOf (P : List Mail) : List (List Nat) := P.map fun m => sentP m.text
noncomputable def kap (m : Mail) : Nat := (m.k.fmod 2).toNat
noncomputable def pieceOf (m : Mail) : Str × Str := (mkS ((sentP m.text).take (kap m)), mkS ((sentP m.text).drop (kap m)))
theorem sentsOf_ok {P : List Mail} (hok : ∀ m ∈ P, m.Ok) : ∀ l ∈ sentsOf P, (∀ c ∈ l, okSign c) ∧ l.length ≤ 6 := fun l hl => by
  obtain ⟨m, hm, rfl⟩ := List.mem_map.mp hl
  exact ⟨sentP_ok (hok m hm).codes.1, (hok m hm).quot.2.2⟩
theorem shaped_strs {T : List (List Nat)} (h : ∀ l ∈ T, ∀ c ∈ l, okSign c) : SeqAt.shaped (.list (T.map strD)) = true := shaped_list fun d hd => by
  obtain ⟨l, hl, rfl⟩ := List.mem_map.mp hd
  exact ⟨strOk_mkS fun c hc => okSign_lt (h l hl c hc), Nat.zero_le _⟩
noncomputable def R6 : List Int := [0, 1, 2, 3, 4, 5]
noncomputable def atD {α : Type} (P : List α) (f : α → PyData) (r : Int) : PyData := match P[r.toNat]? with | some m => f m | none => .none
theorem map_atD {α : Type} (P : List α) (f : α → PyData) (h : P.length = 6) : R6.map (atD P f) = P.map f := by
  match P, h with
  | [a, b, c, d, e, g], _ => rfl
section
variable {w : World} {A : Around} {s : Shared} {E : Value → Shared → Prop} {Q : Flow → Shared → Prop}
variable {h0 : Heap} {L : Addr} {hb : Heap} {pm : Value} {X : Addr → Prop} {ms : List (Addr × List PyData)} {pl : Pl} {bs : List (Str × Ent)}
noncomputable abbrev bsC (st : Int) (P : List Mail) : List (Str × Ent) := ("dues", .d (.list ((P.map Mail.due).map .int))) :: bsB st P
/- sents -/
theorem walk8 {P : List Mail} {st : Int} (hA : Room 6 A) (S : LS h0 L (lcl L) X ms pl) (R1 : ReAt h0 163 code1) (R2 : ReAt h0 168 code2) (hP6 : P.length = 6) (hok : ∀ m ∈ P, m.Ok)
    (g : LF h0 L (lcl L) X hb (bsC st P) ms pl s.heap)
    (next : ∀ h' tk, LF h0 L (lcl L) X hb (("sents", .d (.list ((sentsOf P).map strD))) :: bsC st P) ms pl h' → wpAny (model thePr w) A (execs (lawB.drop 10) (lenv pm L)) Q E { s with heap := h', toks := tk }) :
    wpAny (model thePr w) A (execs (lawB.drop 8) (lenv pm L)) Q E s := by
  have hu : A.units + 64 < cLine := by have := hA.units; omega
  refine st_asg (x := "sents") (d := .list ((sentsOf P).map strD)) (f := true) S g rfl rfl (.inr ⟨_, rfl, rfl, rfl⟩) ?_ (.inl rfl) rfl fun h1 tk1 g1 => ?_
  · rw [sentsOf, List.map_map]
    refine ev_mails (cl' := []) (fun m => strD (sentP m.text)) hA rfl hP6 rfl (by decide) rfl (by decide) (fun _ => rfl) (fun _ => rfl) (fun _ => rfl) (fun C m hm => ⟨true, ?_⟩) (fun _ _ => rfl)
    have hq := (hok m hm).quot
    have hc := (hok m hm).codes
    have hcps : (mkS m.text).cps = m.text.toArray := rfl
    refine EV.call mono_LC (NV.gc S) (KPr.base fun h g => (g.1.base S).quot) (.cons mono_LC (EV.cx (d := .str (mkS m.text))) .nil) fun s E vs as g r => ?_
    refine rds1 r fun x1z b1z r1 => ?_
    refine quot_ok (x := mkS m.text) (out := sentP m.text) (hA.le (by decide)) (g.1.base S) (R1.kp g.1.kp) (R2.kp g.1.kp) r1 (by rw [hcps]; simp; omega) (by rw [hcps]; simpa using hq.1) (by rw [hcps]; exact hq.2.1) fun u s' k => ⟨⟨[], .str _ _, fun _ h => nomatch h⟩, k⟩
  · refine st_if (b := false) g1 mono_LF ?_ fun s2 g2 k2 => ?_
    · have hsh := shaped_strs fun l hl => (sentsOf_ok hok l hl).1
      have e : (!PyData.eqv (.list ((sentsOf P).map strD)) (.list ((sentsOf P).map strD))) = false := by
        rw [eqv_self (SeqAt.canLay_of_shaped hsh)]; rfl
      refine TV.cast e (TV.ned mono_LF hu hsh hsh (g := true) EV.n ?_ rfl)
      rw [sentsOf, List.map_map]
      refine ev_mails (cl' := []) (fun m => strD (sentP m.text)) hA rfl hP6 rfl (by decide) rfl (by decide) (fun _ => rfl) (fun _ => rfl) (fun _ => rfl) (fun C m hm => ⟨true, ?_⟩) (fun _ _ => rfl)
      have hc := (hok m hm).codes
      refine EV.call mono_LC (NV.gc S) (KPr.base fun h g => (g.1.base S).sent) (.cons mono_LC (EV.cx (d := .str (mkS m.text))) .nil) fun s E vs as g r => ?_
      refine rds1 r fun x1z b1z r1 => ?_
      exact sent_ok (hA.le (by decide)) (g.1.base S) r1 hc.1 hc.2 fun u s' k => ⟨⟨[], .str _ _, fun _ h => nomatch h⟩, k⟩
    · obtain ⟨h2, tk2, rfl, k2⟩ := k2
      exact wpAny_execs_nil (next h2 tk2 g2)
end
end Mine
set_option maxRecDepth 100000
set_option linter.all false
namespace Mine
open PySem PySem.Spec PySem.Calls PyProof.Rows PySem.W
noncomputable def sizesOf (P : List Mail) : List Int := (sentsOf P).map fun l => (l.length : Int)
section
variable {w : World} {A : Around} {s : Shared} {E : Value → Shared → Prop} {Q : Flow → Shared → Prop}
variable {h0 : Heap} {L : Addr} {hb : Heap} {pm : Value} {X : Addr → Prop} {ms : List (Addr × List PyData)} {pl : Pl} {bs : List (Str × Ent)}
theorem atD_int {n : Nat} {P : List Mail} (h : n < P.length) (f : Mail → PyData) : atD P f (n : Int) = f P[n] := by
  unfold atD
  have : P[(n : Int).toNat]? = some P[n] := by simp [h]
  rw [this]
theorem R6_mem {r : Int} (h : r ∈ R6) : ∃ n : Nat, n < 6 ∧ r = n := by
  unfold R6 at h
  simp at h
  rcases h with rfl | rfl | rfl | rfl | rfl | rfl
  · exact ⟨0, by decide, rfl⟩
  · exact ⟨1, by decide, rfl⟩
  · exact ⟨2, by decide, rfl⟩
  · exact ⟨3, by decide, rfl⟩
  · exact ⟨4, by decide, rfl⟩
  · exact ⟨5, by decide, rfl⟩
theorem it_R6 {G : Heap → Prop} {x : Str} {p p1 p2 : Pos} {k : Nat} (hA : Room 6 A) (hm : Mono G) (hn : NV (lenv pm L) G x (.type "range")) : IT w A (lenv pm L) G (.Call (.Name x p) [.Constant (.int 6) k p1] [] p2) (R6.map .int) :=
  IT.range1 (n := 6) hm hA.handled hn EV.int (by decide) rfl
noncomputable abbrev scP : Scope := ⟨.function, [(".0", .local), ("r", .local), ("plain", .free), ("sents", .free)], false, false, []⟩
noncomputable abbrev clP (L : Addr) : List (Str × Addr) := [("sents", L+6), ("plain", L+3)]
noncomputable abbrev bsP (st : Int) (P : List Mail) : List (Str × Ent) := ("sizes", .d (.list ((sizesOf P).map .int))) :: ("sents", .d (.list ((sentsOf P).map strD))) :: bsC st P
theorem ev_kap {st : Int} {P : List Mail} {C : Addr} {n : Nat} (hnP : n < P.length) (hP6 : P.length = 6) (hok : ∀ m ∈ P, m.Ok) {p1 p2 p3 p4 p5 p6 p7 : Pos} {k1 k2 : Nat} : EV w A (compEnvC scP (clP L) C (lenv pm L)) (fun h => LF h0 L (lcl L) X hb (bsP st P) ms pl h ∧ LB C [("r", .int (n : Int))] h) true
    (.BinOp (.Subscript (.Subscript (.Name "plain" p1) (.Name "r" p2) p3) (.Constant (.int 1) k1 p4) p5) .Mod (.Constant (.int 2) k2 p6) p7) (.int ((kap (P[n]'hnP) : Nat) : Int)) := by
  have hpn : (P.map Mail.dat)[((n : Nat) : Int).toNat]? = some (P[n]'hnP).dat := by simp [hnP]
  have hk0 := (hok (P[n]'hnP) (List.getElem_mem hnP)).k.1
  have hkap : (P[n]'hnP).k.fmod 2 = ((kap (P[n]'hnP) : Nat) : Int) := by
    unfold kap
    rw [Int.fmod_eq_emod_of_nonneg _ (by decide)]
    omega
  exact EV.cast (congrArg PyData.int hkap) (EV.mod mono_LC (by decide) (EV.itemT (k := 1) mono_LC (by decide) (by decide) rfl (EV.item mono_LC (by omega) (by omega) hpn (EV.nc (d := .list (P.map Mail.dat))) (EV.cx (d := .int n)) (fun _ _ => rfl)) EV.int (fun _ _ => rfl)) EV.int)
/- (sents[r][:plain[r][1] % 2], sents[r][plain[r][1] % 2:]) for r in range(6) -/
theorem ev_pieces {st : Int} {P : List Mail} (hA : Room 6 A) (S : LS h0 L (lcl L) X ms pl) (hP6 : P.length = 6) (hok : ∀ m ∈ P, m.Ok) {e : Expr} (he : e = (match lawB.getD 11 (.Pass ⟨0, 0, 0, 0⟩) with | .Assign _ v _ => v | _ => .Constant .none 0 ⟨0, 0, 0, 0⟩)) :
    EV w A (lenv pm L) (LF h0 L (lcl L) X hb (bsP st P) ms pl) true e (.list (P.map fun m => prD (pieceOf m))) := by
  subst he
  rw [← map_atD P (fun m => prD (pieceOf m)) hP6]
  refine ev_ints (D := R6) (cl' := clP L) (atD P fun m => prD (pieceOf m)) hA (it_R6 hA mono_LF (NV.b S)) (by decide) rfl (by decide) rfl (by decide) (fun _ => rfl) (fun C r hr => ⟨true, ?_⟩) (fun r hr => ?_) (fun _ => rfl)
  · obtain ⟨n, hn, rfl⟩ := R6_mem hr
    have hnP : n < P.length := by omega
    rw [atD_int hnP]
    have hsn : ((sentsOf P).map strD)[((n : Nat) : Int).toNat]? = some (strD (sentP P[n].text)) := by
      simp [sentsOf, hnP]
    have hl := (hok P[n] (List.getElem_mem hnP)).quot.2.2
    refine EV.tuple (.cons mono_LC (EV.sliceTo mono_LC (by omega) (EV.item mono_LC (by omega) (by omega) hsn (EV.nc (d := .list ((sentsOf P).map strD))) (EV.cx (d := .int n)) (fun _ _ => rfl)) (ev_kap hnP hP6 hok)) (.cons mono_LC (EV.sliceFrom mono_LC (by omega) (EV.item mono_LC (by omega) (by omega) hsn (EV.nc (d := .list ((sentsOf P).map strD))) (EV.cx (d := .int n)) (fun _ _ => rfl)) (ev_kap hnP hP6 hok)) .nil)) (show 2 ≤ sizeLine by decide)
  · obtain ⟨n, hn, rfl⟩ := R6_mem hr
    rw [atD_int (by omega)]; rfl
/- sizes, pieces -/
theorem walk10 {P : List Mail} {st : Int} (hA : Room 6 A) (S : LS h0 L (lcl L) X ms pl) (hP6 : P.length = 6) (hok : ∀ m ∈ P, m.Ok)
    (g : LF h0 L (lcl L) X hb (("sents", .d (.list ((sentsOf P).map strD))) :: bsC st P) ms pl s.heap)
    (next : ∀ h' tk, LF h0 L (lcl L) X hb [("pieces", .d (.list (P.map fun m => prD (pieceOf m)))), ("sizes", .d (.list ((sizesOf P).map .int))), ("sents", .d (.list ((sentsOf P).map strD))), ("dues", .d (.list ((P.map Mail.due).map .int))), ("start", .d (.int st)), sgE] ms pl h' → wpAny (model thePr w) A (execs (lawB.drop 12) (lenv pm L)) Q E { s with heap := h', toks := tk }) :
    wpAny (model thePr w) A (execs (lawB.drop 10) (lenv pm L)) Q E s := by
  have h1000 : 1000 ≤ sizeLine := by decide
  have hsl : (sentsOf P).length = 6 := by rw [sentsOf, List.length_map, hP6]
  refine st_asg (x := "sizes") (d := .list ((sizesOf P).map .int)) (f := true) S g rfl rfl (.inr ⟨_, rfl, rfl, rfl⟩) ?_ (.inl rfl) rfl fun h1 tk1 g1 => ?_
  · rw [sizesOf, List.map_map]
    refine EV.cast (congrArg PyData.list (map_strFn (fun l => PyData.int (l.length : Int)) .none (sentsOf P))) (EV.comp (cl := []) mono_LF (IT.list hA.handled EV.n) rfl (by decide) rfl (by decide) (fun d => [("sent", d)]) (fun C d hd => Asg.name rfl rfl) (fun _ => true) (strFn (fun l => PyData.int (l.length : Int)) .none) (fun C d hd => TVs.nil) ?_ ?_ ?_)
    · intro C d hd _
      obtain ⟨l, hl, rfl⟩ := List.mem_map.mp hd
      rw [strFn_d]
      have := (sentsOf_ok hok l hl).2
      exact ⟨true, EV.cast (by rw [mkS_len]) (EV.lenS mono_LC (NV.bc S) (EV.cx (d := strD l)) (by rw [mkS_len]; omega))⟩
    · intro d hd _
      obtain ⟨l, hl, rfl⟩ := List.mem_map.mp hd
      rw [strFn_d]; rfl
    · rw [List.length_map]; omega
  refine st_asg (x := "pieces") (d := .list (P.map fun m => prD (pieceOf m))) (f := true) S g1 rfl rfl (.inr ⟨_, rfl, rfl, rfl⟩) ?_ (.inl rfl) rfl fun h2 tk2 g2 => ?_
  · exact ev_pieces hA S hP6 hok rfl
  · show wpAny (model thePr w) A (execs (lawB.drop 12) (lenv pm L)) Q E { s with heap := h2, toks := tk2 }
    have g3 : LF h0 L (lcl L) X hb [("pieces", .d (.list (P.map fun m => prD (pieceOf m)))), ("sizes", .d (.list ((sizesOf P).map .int))), ("sents", .d (.list ((sentsOf P).map strD))), ("dues", .d (.list ((P.map Mail.due).map .int))), ("start", .d (.int st)), sgE] ms pl h2 := g2.sub fun p hp => by
      simp only [List.mem_cons, List.not_mem_nil, or_false] at hp
      rcases hp with rfl | rfl | rfl | rfl | rfl | rfl <;> rfl
    exact @next h2 tk2 g3
end
end Mine
set_option maxRecDepth 100000
set_option linter.all false
namespace Mine
open PySem PySem.Spec PySem.Calls PyProof.Rows PySem.W
/-! ## the masks -/
noncomputable def bitT (k : Nat) (r : Int) : Bool := ((k : Int).fdiv (2 ^ r.toNat)).fmod 2 == 1
noncomputable def amongD (k : Nat) : List Int := R6.filter (bitT k)
/- sizes and dues of six mails -/
structure Six where
  st : Int
  size : List Int
  due : List Int
noncomputable def Six.sz (S : Six) (r : Int) : Int := S.size.getD r.toNat 0
noncomputable def Six.du (S : Six) (r : Int) : Int := S.due.getD r.toNat 0
noncomputable def endsD (S : Six) (k : Nat) : Int := S.st + ((amongD k).map S.sz).sum
noncomputable def ableNext (S : Six) (n : Nat) (l : List Bool) : Bool := !((amongD n).filter fun r => l.getD (n - 2 ^ r.toNat) false && decide (endsD S n ≤ S.du r)).isEmpty
noncomputable def ableL (S : Six) : Nat → List Bool
  | 0 => []
  | 1 => [true]
  | n + 2 => ableL S (n + 1) ++ [ableNext S (n + 1) (ableL S (n + 1))]
noncomputable def costD (S : Six) (k : Nat) : PyData := .tuple [.int (-((amongD k).length : Int)), .int (endsD S k)]
noncomputable def costL (S : Six) (n : Nat) : List PyData := (List.range n).map (costD S)
theorem ableL_len (S : Six) : ∀ n, (ableL S n).length = n
  | 0 => rfl
  | 1 => rfl
  | n + 2 => by rw [ableL, List.length_append, ableL_len S (n + 1)]; rfl
theorem ableL_succ (S : Six) {n : Nat} (h : 1 ≤ n) : ableL S (n + 1) = ableL S n ++ [ableNext S n (ableL S n)] := by
  obtain ⟨m, rfl⟩ : ∃ m, n = m + 1 := ⟨n - 1, by omega⟩
  rfl
theorem bit_sub {k : Nat} {r : Int} (hr : r ∈ R6) (h : bitT k r = true) : 2 ^ r.toNat ≤ k := by
  obtain ⟨n, hn, rfl⟩ := R6_mem hr
  unfold bitT at h
  have e : ((n : Int)).toNat = n := by omega
  rw [e] at h ⊢
  have h2 : (0 : Int) ≤ 2 ^ n := Int.pow_nonneg (by decide)
  rw [Int.fdiv_eq_ediv_of_nonneg _ h2, Int.fmod_eq_emod_of_nonneg _ (by decide)] at h
  rcases Nat.lt_or_ge k (2 ^ n) with hlt | hge
  · have h3 : (k : Int) / 2 ^ n = 0 := Int.ediv_eq_zero_of_lt (by omega) (by exact_mod_cast hlt)
    rw [h3] at h
    simp at h
  · exact hge
theorem mem_among {k : Nat} {r : Int} (h : r ∈ amongD k) : r ∈ R6 ∧ bitT k r = true := List.mem_filter.mp h
theorem eqv_nil (xs : List PyData) : PyData.eqv (.list xs) (.list []) = xs.isEmpty := by
  cases xs with
  | nil => simp [PyData.eqv, PyData.eqvAll]
  | cons a r => simp [PyData.eqv, PyData.eqvAll]
section
variable {w : World} {A : Around} {s : Shared} {E : Value → Shared → Prop}
variable {h0 : Heap} {L : Addr} {hb : Heap} {pm : Value} {X : Addr → Prop} {ms : List (Addr × List PyData)} {pl : Pl} {bs : List (Str × Ent)}
theorem EV.mc {env : Env} {cl : List (Str × Addr)} {x : Str} {pos : Pos} {a : Addr} {ds : List PyData} {C : Addr} {ls : List (Str × PyData)} (hm : (a, ds) ∈ ms) (he : autoParam (bs.lookup x = some (.v (.ref a))) byRfl) (hk : autoParam (env.scope.kind = .function) byRfl) (hx : RK env L cl x := by first | exact .inr ⟨_, rfl, rfl, rfl⟩ | exact .inl ⟨rfl, rfl, rfl⟩) (hd : autoParam ((x == ("__debug__" : Str)) = false) byRfl) :
    EV w A env (fun h => LF h0 L cl X hb bs ms pl h ∧ LB C ls h) false (.Name x pos) (.list ds) := EV.mt (fun _ g => g.1) he hm hk hx hd
/- x.append(e), x a list of the frame that may change -/
theorem st_append {x : Str} {a : Addr} {ds : List PyData} {ms' : List (Addr × List PyData)} {e : Expr} {f : Bool} {d : PyData} {px apos cpos pos : Pos} {rest : List Stmt} {Q : Flow → Shared → Prop} {pl' : Sem Bool} (S : LS h0 L (lcl L) X ms pl) (g : LF h0 L (lcl L) X hb bs ms pl s.heap) (hx : bs.lookup x = some (.v (.ref a))) (hR : RK (lenv pm L) L (lcl L) x) (hd : (x == ("__debug__" : Str)) = false) (hm : (a, ds) ∈ ms)
    (he : EV w A (lenv pm L) (LF h0 L (lcl L) X hb bs ms pl) f e d) (hfl : flat d = true) (hz : ds.length ≤ 1000)
    (hms : ∀ p ∈ ms', p = (a, ds ++ [d]) ∨ (p ∈ ms ∧ p.1 ≠ a)) (hfst : ms'.map (·.1) = ms.map (·.1))
    (heq : eval (.Call (.Attribute (.Name x px) "append" apos) [e] [] cpos) (lenv pm L) = (do
      let ov ← eval (.Name x px) (lenv pm L)
      standAt apos.atName
      let (f, first) ← holding [ov] (getMethod ov "append" pl')
      callWith cpos f first (backTo cpos (starEach [e] (lenv pm L))) []))
    (hs : starEach [e] (lenv pm L) = (false, eval e (lenv pm L)) :: starEach [] (lenv pm L))
    (hev : exec (.Expr (.Call (.Attribute (.Name x px) "append" apos) [e] [] cpos) pos) (lenv pm L) = exec (.Expr (.Call (.Attribute (.Name x px) "append" apos) [e] [] cpos) pos) (lenv pm L))
    (next : ∀ h' tk, LF h0 L (lcl L) X hb bs ms' pl h' → wpAny (model thePr w) A (execs rest (lenv pm L)) Q E { s with heap := h', toks := tk }) :
    wpAny (model thePr w) A (execs (.Expr (.Call (.Attribute (.Name x px) "append" apos) [e] [] cpos) pos :: rest) (lenv pm L)) Q E s := by
  have h1000 : 1000 ≤ sizeLine := by decide
  refine wpAny_execs_cons (wpAny_Expr (wp_methL mono_LF PySem.slot_list_append PySem.F.type_list_append g (NV.nm (fun _ g => g) hx rfl hR hd) (fun h g => by obtain ⟨it, n, e, _⟩ := g.muts _ hm; exact ⟨it, n, e⟩) (EVs.cons (f := false) mono_LF (EV.weak he) .nil hs) (fun s1 vs as k1 g1 r1 => ?_) heq hs rfl))
  refine rds1 r1 fun x1z b1z r1 => ?_
  have := rds_flat r1 hfl
  subst this
  obtain ⟨it, n, e1, r, fd⟩ := g1.muts _ hm
  have hsz : it.size = ds.length := by have := readsAll_length r; rwa [Array.length_toList] at this
  refine wpAny_list_append_plain (hsz := by omega) (l := a) (items := it) ⟨n, e1⟩ fun h₆ hl₆ hs₆ => ?_
  obtain ⟨n₆, hl₆⟩ := hl₆
  obtain ⟨h1, tk1, rfl, k1⟩ := k1
  refine next h₆ tk1 (g1.mut S hm hs₆.extBut hl₆ ?_ (flatAll_append fd (by simp [flatAll, hfl])) hms hfst)
  rw [Array.toList_push]
  exact rdsAll_lbut e1 hs₆.extBut (rdsAll_snoc r1 r) (fun _ h => nomatch h)
end
end Mine
set_option maxRecDepth 100000
set_option linter.all false
namespace Mine
open PySem PySem.Spec PySem.Calls PyProof.Rows PySem.W
noncomputable def Six.Ok (S : Six) : Prop := S.size.length = 6 ∧ S.due.length = 6
theorem Six.sz_at {S : Six} (h : S.Ok) {r : Int} (hr : r ∈ R6) : (S.size.map PyData.int)[r.toNat]? = some (.int (S.sz r)) := by
  obtain ⟨n, hn, rfl⟩ := R6_mem hr
  have : n < S.size.length := by rw [h.1]; exact hn
  simp [Six.sz, this]
theorem Six.du_at {S : Six} (h : S.Ok) {r : Int} (hr : r ∈ R6) : (S.due.map PyData.int)[r.toNat]? = some (.int (S.du r)) := by
  obtain ⟨n, hn, rfl⟩ := R6_mem hr
  have : n < S.due.length := by rw [h.2]; exact hn
  simp [Six.du, this]
theorem R6_lo {r : Int} (hr : r ∈ R6) : 0 ≤ r ∧ r < 6 := by
  obtain ⟨n, hn, rfl⟩ := R6_mem hr
  omega
theorem pow_cast (k : Nat) (r : Int) (h : 2 ^ r.toNat ≤ k) : (k : Int) - 2 ^ r.toNat = ((k - 2 ^ r.toNat : Nat) : Int) := by
  rw [Int.ofNat_sub h]; simp
theorem among_len (k : Nat) : (amongD k).length ≤ 6 := Nat.le_trans (List.length_filter_le _ _) (by decide)
noncomputable abbrev bsS (S : Six) (pcs snt : PyData) : List (Str × Ent) := [("pieces", .d pcs), ("sizes", .d (.list (S.size.map .int))), ("sents", .d snt), ("dues", .d (.list (S.due.map .int))), ("start", .d (.int S.st)), sgE]
noncomputable abbrev bsT (S : Six) (pcs snt : PyData) (a1 a2 : Addr) : List (Str × Ent) := ("costs", .v (.ref a2)) :: ("able", .v (.ref a1)) :: bsS S pcs snt
section
variable {w : World} {A : Around} {s : Shared} {E : Value → Shared → Prop} {Q : Flow → Shared → Prop}
variable {h0 : Heap} {L : Addr} {hb : Heap} {pm : Value} {X : Addr → Prop} {pl : Pl} {ms : List (Addr × List PyData)} {bs : List (Str × Ent)}
/- [r for r in among if able[mask - 2 ** r] and ends <= dues[r]] != [] -/
theorem ev_able {S : Six} {k : Nat} {a1 : Addr} {l : List Bool} (hS : S.Ok) (hA : Room 6 A) (SL : LS h0 L (lcl L) X ms pl) (hm : (a1, l.map .bool) ∈ ms) (hl : l.length = k) (hk : 1 ≤ k) (hk' : k ≤ 63)
    (h1 : bs.lookup ("able" : Str) = some (.v (.ref a1))) (h2 : bs.lookup ("mask" : Str) = some (.d (.int k))) (h3 : bs.lookup ("ends" : Str) = some (.d (.int (endsD S k)))) (h4 : bs.lookup ("dues" : Str) = some (.d (.list (S.due.map .int)))) (h5 : bs.lookup ("among" : Str) = some (.d (.list ((amongD k).map .int))))
    {e : Expr} (he : e = (match (match lawB.getD 13 (.Pass ⟨0, 0, 0, 0⟩) with | .For _ _ b _ _ => b | _ => []).getD 2 (.Pass ⟨0, 0, 0, 0⟩) with | .Expr (.Call _ (e :: _) _ _) _ => e | _ => .Constant .none 0 ⟨0, 0, 0, 0⟩)) :
    EV w A (lenv pm L) (LF h0 L (lcl L) X hb bs ms pl) true e (.bool (ableNext S k l)) := by
  subst he
  have h1000 : 1000 ≤ sizeLine := by decide
  have hu : A.units + 64 < cLine := by have := hA.units; omega
  have hq : (!PyData.eqv (.list (((amongD k).filter fun r => l.getD (k - 2 ^ r.toNat) false && decide (endsD S k ≤ S.du r)).map .int)) (.list [])) = ableNext S k l := by
    rw [eqv_nil, ableNext, List.isEmpty_map]
  refine EV.cast (congrArg PyData.bool hq) (EV.ned (f := true) (g := true) mono_LF hu (shaped_ints _) (by rfl) ?_ (EV.list EVs.nil (by decide)) rfl)
  refine EV.cast (congrArg PyData.list (filter_intFn _ _)) (EV.comp (cl := [("mask", L+11), ("ends", L+12), ("dues", L+5), ("able", L+9)]) mono_LF (IT.list hA.handled (EV.n h5)) rfl (by decide) rfl (by decide) (fun d => [("r", d)]) (fun C d hd => Asg.name rfl rfl) (intFn (fun r => l.getD (k - 2 ^ r.toNat) false && decide (endsD S k ≤ S.du r)) false) (fun d => d) ?_ ?_ ?_ ?_)
  · intro C d hd
    obtain ⟨r, hr, rfl⟩ := List.mem_map.mp hd
    obtain ⟨hr6, hbit⟩ := mem_among hr
    have hle := bit_sub hr6 hbit
    have hpos : 1 ≤ 2 ^ r.toNat := Nat.one_le_two_pow
    obtain ⟨hr0, hr5⟩ := R6_lo hr6
    have hat : (l.map PyData.bool)[((k : Int) - 2 ^ r.toNat).toNat]? = some (.bool (l.getD (k - 2 ^ r.toNat) false)) := by
      rw [pow_cast k r hle]
      have : k - 2 ^ r.toNat < l.length := by omega
      simp [this]
    refine TVs.one (TV.and mono_LC (TV.ofEV (EV.item mono_LC (by rw [pow_cast k r hle]; omega) (by rw [pow_cast k r hle]; omega) hat (EV.mc hm h1) (EV.sub mono_LC (EV.nc h2) (EV.pow mono_LC hr0 ?_ EV.int (EV.cx (d := .int r)))) (fun _ _ => rfl))) fun _ => TV.le mono_LC (EV.nc h3) (EV.item mono_LC hr0 (by omega) (Six.du_at hS hr6) (EV.nc h4) (EV.cx (d := .int r)) (fun _ _ => rfl)))
    have : (Builtin.Int.intBits 2 : Int) = 2 := by decide
    rw [this]; omega
  · intro C d hd _
    exact ⟨false, EV.cx⟩
  · intro d hd _
    obtain ⟨r, _, rfl⟩ := List.mem_map.mp hd
    rfl
  · rw [List.length_map]; have := among_len k; omega
end
end Mine
set_option maxRecDepth 100000
set_option linter.all false
namespace Mine
open PySem PySem.Spec PySem.Calls PyProof.Rows PySem.W
section
variable {w : World} {A : Around} {s : Shared} {E : Value → Shared → Prop} {Q : Flow → Shared → Prop}
variable {h0 : Heap} {L : Addr} {hb : Heap} {pm : Value} {X : Addr → Prop} {pl : Pl} {ms : List (Addr × List PyData)} {bs : List (Str × Ent)}
theorem costL_succ (S : Six) (n : Nat) : costL S (n + 1) = costL S n ++ [costD S n] := by
  unfold costL
  rw [List.range_succ, List.map_append]; rfl
theorem costL_len (S : Six) (n : Nat) : (costL S n).length = n := by unfold costL; simp
/- a turn of the masks' loop, behind the name -/
theorem turnM {S : Six} {k : Nat} {a1 a2 : Addr} {pcs snt : PyData} (hS : S.Ok) (hA : Room 6 A) (hne : a1 ≠ a2) (hk : 1 ≤ k) (hk' : k ≤ 63) (SL : LS h0 L (lcl L) X [(a2, costL S k), (a1, (ableL S k).map .bool)] none)
    (g : LF h0 L (lcl L) X hb (("mask", .d (.int k)) :: bsT S pcs snt a1 a2) [(a2, costL S k), (a1, (ableL S k).map .bool)] none s.heap)
    {body : List Stmt} (hbody : body = (match lawB.getD 13 (.Pass ⟨0, 0, 0, 0⟩) with | .For _ _ b _ _ => b | _ => []))
    (next : ∀ h' tk, LF h0 L (lcl L) X hb (bsT S pcs snt a1 a2) [(a2, costL S (k + 1)), (a1, (ableL S (k + 1)).map .bool)] none h' → Q .next { s with heap := h', toks := tk }) :
    wpAny (model thePr w) A (execs body (lenv pm L)) Q E s := by
  subst hbody
  have h1000 : 1000 ≤ sizeLine := by decide
  have nl : ∀ (x y : Int), y.natAbs < 1073741824 → Builtin.divisionGoesByPylong x y = false := fun x y h => PyProof.noPylong_small h
  refine st_comp (x := "among") (xs := R6.map .int) (cl' := [("mask", L+11)]) (ls := fun d => [("r", d)]) (p := intFn (bitT k) false) (f := fun d => d) SL g rfl rfl (.inl ⟨rfl, rfl⟩) rfl (it_R6 hA mono_LF (NV.b SL)) rfl (by decide) rfl (by decide) (fun C d hd => Asg.name rfl rfl) ?_ ?_ ?_ ?_ (fun _ => rfl) fun h1 tk1 g1 => ?_
  · intro C d hd
    obtain ⟨r, hr, rfl⟩ := List.mem_map.mp hd
    obtain ⟨hr0, hr5⟩ := R6_lo hr
    have hp : (2 : Int) ^ r.toNat ≠ 0 := by have := Int.pow_pos (n := 2) (m := r.toNat) (by decide); omega
    have hp2 : ((2 : Int) ^ r.toNat).natAbs < 1073741824 := by
      obtain ⟨n, hn, rfl⟩ := R6_mem hr
      match n, hn with
      | 0, _ | 1, _ | 2, _ | 3, _ | 4, _ | 5, _ => decide
    refine TVs.one (TV.cast (b := (((k : Int).fdiv (2 ^ r.toNat)).fmod 2 == 1)) rfl (TV.eqi mono_LC (EV.mod mono_LC (by decide) (EV.fdiv mono_LC hp (nl _ _ hp2) (EV.nc (d := .int k)) (EV.pow mono_LC hr0 ?_ EV.int (EV.cx (d := .int r)))) EV.int) EV.int))
    have : (Builtin.Int.intBits 2 : Int) = 2 := by decide
    rw [this]; omega
  · intro C d hd _
    exact ⟨false, EV.cx⟩
  · intro d hd _
    obtain ⟨r, _, rfl⟩ := List.mem_map.mp hd
    rfl
  · have : (R6.map PyData.int).length = 6 := rfl
    omega
  rw [filter_intFn] at g1
  replace g1 : LF h0 L (lcl L) X hb (("among", .d (.list ((amongD k).map .int))) :: ("mask", .d (.int k)) :: bsT S pcs snt a1 a2) [(a2, costL S k), (a1, (ableL S k).map .bool)] none h1 := g1
  have hal := among_len k
  refine st_asg (x := "ends") (d := .int (endsD S k)) (f := true) (s := { s with heap := h1, toks := tk1 }) SL g1 rfl rfl (.inr ⟨_, rfl, rfl, rfl⟩) ?_ (.inl rfl) rfl fun h2 tk2 g2 => ?_
  · refine EV.add mono_LF EV.n (EV.sum (b := true) mono_LF hA.handled (NV.b SL) (EV.cast (d := .list ((amongD k).map fun r => .int (S.sz r))) (by rw [List.map_map]; rfl) (ev_ints (cl' := [("sizes", L+7)]) (fun r => .int (S.sz r)) hA (IT.list hA.handled EV.n) (by omega) rfl (by decide) rfl (by decide) (fun _ => rfl) (fun C r hr => ⟨false, ?_⟩) (fun _ _ => rfl) (fun _ => rfl))))
    obtain ⟨hr6, _⟩ := mem_among hr
    obtain ⟨hr0, hr5⟩ := R6_lo hr6
    exact EV.item mono_LC hr0 (by omega) (Six.sz_at hS hr6) (EV.nc (d := .list (S.size.map .int))) (EV.cx (d := .int r)) (fun _ _ => rfl)
  refine st_append (x := "able") (a := a1) (ds := (ableL S k).map .bool) (ms' := [(a2, costL S k), (a1, (ableL S (k + 1)).map .bool)]) (s := { s with heap := h2, toks := tk2 }) SL g2 rfl (.inr ⟨_, rfl, rfl, rfl⟩) rfl (by simp) (ev_able (l := ableL S k) hS hA SL (by simp) (ableL_len S k) hk hk' rfl rfl rfl rfl rfl rfl) rfl (by rw [List.length_map, ableL_len]; omega) ?_ rfl rfl rfl rfl fun h3 tk3 g3 => ?_
  · intro p hp
    simp only [List.mem_cons, List.not_mem_nil, or_false] at hp
    rcases hp with rfl | rfl
    · exact .inr ⟨by simp, Ne.symm hne⟩
    · exact .inl (by rw [ableL_succ S hk, List.map_append]; rfl)
  have SL3 : LS h0 L (lcl L) X [(a2, costL S k), (a1, (ableL S (k + 1)).map .bool)] none := SL.reMs rfl
  refine st_append (x := "costs") (a := a2) (ds := costL S k) (ms' := [(a2, costL S (k + 1)), (a1, (ableL S (k + 1)).map .bool)]) (d := costD S k) (f := true) (s := { s with heap := h3, toks := tk3 }) SL3 g3 rfl (.inr ⟨_, rfl, rfl, rfl⟩) rfl (by simp) (EV.new (f := false) ?_ rfl) rfl (by rw [costL_len]; omega) ?_ rfl rfl rfl rfl fun h4 tk4 g4 => ?_
  · exact EV.tuple (EVs.weak (.cons mono_LF (EV.weak (EV.neg (EV.cast (by rw [List.length_map]) (EV.len mono_LF (NV.b SL3) (EV.n (d := .list ((amongD k).map .int))) (by rw [List.length_map]; omega))))) (.cons mono_LF EV.n .nil))) (show 2 ≤ sizeLine by decide)
  · intro p hp
    simp only [List.mem_cons, List.not_mem_nil, or_false] at hp
    rcases hp with rfl | rfl
    · exact .inl (by rw [costL_succ])
    · exact .inr ⟨by simp, hne⟩
  refine wpAny_execs_nil (next h4 tk4 (g4.sub fun p hp => ?_))
  simp only [List.mem_cons, List.not_mem_nil, or_false] at hp
  rcases hp with rfl | rfl | rfl | rfl | rfl | rfl | rfl | rfl <;> rfl
end
end Mine
set_option maxRecDepth 100000
set_option linter.all false
namespace Mine
open PySem PySem.Spec PySem.Calls PyProof.Rows PySem.W
noncomputable abbrev bsU (S : Six) (pcs snt : PyData) : List (Str × Ent) := ("costs", .d (.list (costL S 64))) :: ("able", .d (.list ((ableL S 64).map .bool))) :: bsS S pcs snt
section
variable {w : World} {A : Around} {s : Shared} {E : Value → Shared → Prop} {Q : Flow → Shared → Prop}
variable {h0 : Heap} {L : Addr} {hb : Heap} {pm : Value}
/- able, costs and the masks' loop -/
theorem walk12 {S : Six} {pcs snt : PyData} (hS : S.Ok) (hA : Room 6 A) (SL : LS h0 L (lcl L) (XS L (lcl L) []) [] none) (g : LF h0 L (lcl L) (XS L (lcl L) []) hb (bsS S pcs snt) [] none s.heap) (hbare : AllBare s.gens)
    (next : ∀ s' hb', LF h0 L (lcl L) (XS L (lcl L) []) hb' (bsU S pcs snt) [] none s'.heap → s'.os = s.os → AllBare s'.gens → wpAny (model thePr w) A (execs (lawB.drop 14) (lenv pm L)) Q E s') :
    wpAny (model thePr w) A (execs (lawB.drop 12) (lenv pm L)) Q E s := by
  refine @st_twoC w A (lenv pm L) s E Q h0 L (lcl L) [] hb (bsS S pcs snt) [] none "able" "costs" _ _ _ _ _ _ _ _ _ _ [.bool true] [.tuple [.int 0, .int S.st]] hA.handled SL g rfl rfl (.inr ⟨_, rfl, rfl, rfl⟩) (.inr ⟨_, rfl, rfl, rfl⟩) ?_ ?_ rfl rfl rfl rfl rfl rfl rfl rfl rfl rfl fun a1 a2 hb1 h1 tk1 hne S1 g1 => ?_
  · exact EV.list (EVs.cons mono_LF EV.bool .nil) (show 1 ≤ sizeLine by decide)
  · exact EV.list (EVs.cons mono_LF (EV.new (EV.tuple (EVs.weak (EVs.cons (f := false) mono_LF (EV.weak EV.int) (EVs.cons mono_LF EV.n .nil))) (show 2 ≤ sizeLine by decide)) rfl) .nil) (show 1 ≤ sizeLine by decide)
  have S2 : LS h0 L (lcl L) (XS L (lcl L) [a2, a1]) [(a2, costL S 1), (a1, (ableL S 1).map .bool)] none := S1.reMs rfl
  have hc1 : costL S 1 = [.tuple [.int 0, .int S.st]] := by
    have : endsD S 0 = S.st := by
      unfold endsD
      have : amongD 0 = [] := by decide
      rw [this]; simp
    show [costD S 0] = _
    unfold costD
    rw [this]
    rfl
  have g2 : LF h0 L (lcl L) (XS L (lcl L) [a2, a1]) hb1 (bsT S pcs snt a1 a2) [(a2, costL S 1), (a1, (ableL S 1).map .bool)] none h1 := by rw [hc1]; exact g1
  have g3 := g2.reX (X' := XS L (lcl L) [a2, a1])
  have hX := g3.hX (fun a ha => by
    simp only [List.mem_cons, List.not_mem_nil, or_false] at ha
    rcases ha with rfl | rfl
    · exact g3.mutObj (by simp)
    · exact g3.mutObj (by simp))
  refine st_for (xs := rngD 1 1 63) (G := LF h0 L (lcl L) (XS L (lcl L) [a2, a1]) h1 (bsT S pcs snt a1 a2) [(a2, costL S 1), (a1, (ableL S 1).map .bool)] none) (s := { s with heap := h1, toks := tk1 })
    (fun i s' => ∃ hb', LF h0 L (lcl L) (XS L (lcl L) [a2, a1]) hb' (bsT S pcs snt a1 a2) [(a2, costL S (i + 1)), (a1, (ableL S (i + 1)).map .bool)] none s'.heap ∧ s'.os = s.os ∧ AllBare s'.gens)
    (XS L (lcl L) [a2, a1]) g3 (ITN.rng (n := 63) mono_LF hA.handled (NV.b S2) (EVs.cons mono_LF EV.int (EVs.cons mono_LF EV.int .nil)) RC.two (by decide) (by decide)) ?_ hX ?_ ?_ ?_ ?_ (fun _ => rfl)
  · intro d hd
    obtain ⟨i, _, rfl⟩ := List.mem_map.mp hd
    rfl
  · rintro s' ⟨h', tk, rfl, k⟩
    exact ⟨_, g3.kf k, rfl, hbare⟩
  · rintro i s' h' tk ⟨hb', g', ho, hba⟩ kp hold
    exact ⟨h', g3.step (hb' := hb') g' kp hold, ho, hba⟩
  · rintro i d s1 v E' hi ⟨hb', g', ho, hba⟩ r
    have hi' : i < 63 := by
      have := (List.getElem?_eq_some_iff.mp hi).1
      simpa using this
    have hd : d = .int ((i + 1 : Nat) : Int) := by
      have e : (rngD 1 1 63)[i]? = some (.int (1 + (i : Int) * 1)) := by simp [hi']
      rw [e] at hi
      have := (Option.some.inj hi).symm
      rw [this]; congr 1; omega
    subst hd
    have Sx : LS h0 L (lcl L) (XS L (lcl L) [a2, a1]) [(a2, costL S (i + 1)), (a1, (ableL S (i + 1)).map .bool)] none := S2.reMs rfl
    have g4 := g'.reX (X' := XS L (lcl L) [a2, a1])
    refine wpAny_assign_Name (wp_storeL Sx g4 (e := .d (.int ((i + 1 : Nat) : Int))) ⟨[], r, fun _ h => nomatch h⟩ rfl rfl (.inr ⟨_, rfl, rfl, rfl⟩) fun h2 tk2 g5 _ => ?_)
    refine turnM (s := { s1 with heap := h2, toks := tk2 }) (hb := s1.heap) hS hA hne (by omega) (by omega) Sx g5 rfl fun h4 tk4 g7 => ?_
    exact ⟨⟨_, g7, ho, hba⟩, g7.kx⟩
  · rintro s' ⟨hb', g', ho, hba⟩
    have g' : LF h0 L (lcl L) (XS L (lcl L) [a2, a1]) hb' (bsT S pcs snt a1 a2) [(a2, costL S 64), (a1, (ableL S 64).map .bool)] none s'.heap := g'
    have g6 := g'.freeze (x := "able") (a := a1) (ds := (ableL S 64).map .bool) (ms' := [(a2, costL S 64)]) rfl (by simp) (fun p hp => by simp at hp; subst hp; exact ⟨by simp, Ne.symm hne⟩)
    have g7 := g6.freeze (x := "costs") (a := a2) (ds := costL S 64) (ms' := []) rfl (by simp) (fun p hp => nomatch hp)
    have g8 := g7.sub (bs' := bsU S pcs snt) (fun p hp => by
      simp only [List.mem_cons, List.not_mem_nil, or_false] at hp
      rcases hp with rfl | rfl | rfl | rfl | rfl | rfl | rfl | rfl <;> rfl)
    exact next s' _ (g8.reX (X' := XS L (lcl L) [])) ho hba
end
end Mine
set_option maxRecDepth 100000
set_option linter.all false
namespace Mine
open PySem PySem.Spec PySem.Calls PyProof.Rows PySem.W
theorem KPr.acc {G : Heap → Prop} (hG : ∀ h, G h → AccAt h) : KPr G (.ref 154) := fun M h g => by
  obtain ⟨nm, q, sn, sub, ab, col, dd, k0, k1, k2, k3, k5, e⟩ := (hG h g).cls
  exact ⟨.machine, .inr (.inl rfl), fun A Q E s k q => by
    obtain ⟨h', g', d', t', os'⟩ := s
    exact wpAny_keeperOf_exc (k _ _ e) q⟩
/- the frame as the ranks' loop begins -/
noncomputable abbrev bsV (S : Six) (pcs snt : PyData) (p ka : Addr) (R : List Int) : List (Str × Ent) := ("ranks", .d (.list (R.map .int))) :: ("pile", .v (.ref p)) :: ("kept", .v (.ref ka)) :: bsU S pcs snt
section
variable {w : World} {A : Around} {s : Shared} {E : Value → Shared → Prop} {Q : Flow → Shared → Prop}
variable {h0 : Heap} {L : Addr} {hb : Heap} {pm : Value}
/- pile, ranks and kept -/
theorem walk14 {S : Six} {pcs snt : PyData} (hA : Room 6 A) (SL : LS h0 L (lcl L) (XS L (lcl L) []) [] none) (g : LF h0 L (lcl L) (XS L (lcl L) []) hb (bsU S pcs snt) [] none s.heap)
    (next : ∀ h' tk hb' p ka, ka ≠ p → LS h0 L (lcl L) (XS L (lcl L) [ka, p]) [(ka, [])] (some (p, S.st, [])) → LF h0 L (lcl L) (XS L (lcl L) [ka, p]) hb' (bsV S pcs snt p ka []) [(ka, [])] (some (p, S.st, [])) h' → wpAny (model thePr w) A (execs (lawB.drop 16) (lenv pm L)) Q E { s with heap := h', toks := tk }) :
    wpAny (model thePr w) A (execs (lawB.drop 14) (lenv pm L)) Q E s := by
  refine wpAny_execs_cons (wpAny_Assign_Name (wp_callR mono_LF g (NV.g SL (v := .ref 154)) (KPr.acc fun h g => (g.defs SL).acc) (AR.ev mono_LF EV.n .nil) fun s1 vs k1 g1 r1 => ?_) rfl)
  obtain ⟨v, r, as, rfl, rv, rfl⟩ := r1
  refine rdsI rv fun u => ?_
  have D := g1.defs SL
  refine newP hA (g1.base SL) D.opq D.acc D.c90 D.d83 D.init fun p h' tk hn hP kf => ?_
  obtain ⟨h1, tk1, rfl, kk1⟩ := k1
  have hp0 : h0.get? p = none := g1.fresh hn
  have S1 : LS h0 L (lcl L) (XS L (lcl L) [p]) [] (some (p, S.st, [])) := SL.ls0.ls (fun q h => nomatch h) (by simp) (fun q hq => by cases hq; exact ⟨hp0, by simp⟩)
  have g2 : LF h0 L (lcl L) (XS L (lcl L) [p]) h' (bsU S pcs snt) [] (some (p, S.st, [])) h' := (g1.newPile kf hP (y := "signs") rfl rfl (by decide)).reX
  refine wp_storeL S1 g2 (e := .v (.ref p)) rfl rfl rfl (.inl ⟨rfl, rfl⟩) fun h2 tk2 g3 _ => ?_
  show wpAny _ A (execs (lawB.drop 15) (lenv pm L)) Q E { s with heap := h2, toks := tk2 }
  refine @st_twoL w A (lenv pm L) { s with heap := h2, toks := tk2 } E Q h0 L (lcl L) [p] h' (("pile", .v (.ref p)) :: bsU S pcs snt) [] (some (p, S.st, [])) "ranks" "kept" _ _ _ _ _ _ _ _ _ _ [] [] hA.handled S1 g3 rfl rfl (.inl ⟨rfl, rfl⟩) (.inl ⟨rfl, rfl⟩) (EV.list EVs.nil (by decide)) (EV.list EVs.nil (by decide)) rfl rfl rfl rfl rfl rfl fun a1 a2 hb3 h3 tk3 hne S3 g4 => ?_
  have g5 := g4.freeze (x := "ranks") (a := a1) (ds := []) (ms' := [(a2, [])]) rfl (by simp) (fun q hq => by simp at hq; subst hq; exact ⟨by simp, Ne.symm hne⟩)
  have g6 := g5.sub (bs' := bsV S pcs snt p a2 []) (fun q hq => by
    simp only [List.mem_cons, List.not_mem_nil, or_false] at hq
    rcases hq with rfl | rfl | rfl | rfl | rfl | rfl | rfl | rfl | rfl | rfl | rfl <;> rfl)
  have hap : a2 ≠ p := fun h => by
    obtain ⟨it, n, e, _⟩ := g4.muts (a2, []) (by simp)
    obtain ⟨P, _⟩ := g4.pile _ rfl
    exact pile_list P (h ▸ e)
  have S4 : LS h0 L (lcl L) (XS L (lcl L) [a2, p]) [(a2, [])] (some (p, S.st, [])) := S3.re (fun q hq => by simp at hq; subst hq; exact ⟨by simp, by simp⟩) (by simp) (fun q hq => by cases hq; simp)
  exact @next h3 tk3 _ p a2 hap S4 (g6.reX (X' := XS L (lcl L) [a2, p]))
end
end Mine
set_option maxRecDepth 100000
set_option linter.all false
namespace Mine
open PySem PySem.Spec PySem.Calls PyProof.Rows PySem.W
/-! ## min of a list of pairs: the tuples lie in the heap, so a comparison needs the heap's facts -/
section
variable {w : World} {A : Around} {E : Value → Shared → Prop} {s : Shared}
/- a comparison of known items, in any heap that still has H -/
noncomputable def CmpK (w : World) (A : Around) (H : Heap) (P : Nat → Value → Prop) (bt : Nat → Nat → Bool) : Prop :=
  ∀ i j vi vj (s : Shared) (E : Value → Shared → Prop), P i vi → P j vj → Kf H s.heap → wpAny (model thePr w) A (richCompare .Lt vi vj) (fun v s' => v = .bool (bt i j) ∧ Keeps s s') E s
theorem minTail {R : Result → Shared → Prop} {I S : Addr} {fp wr : List Addr} {n : Nat} {P : Nat → Value → Prop} {St : Nat → Heap → Prop} {H : Heap} {bt : Nat → Nat → Bool} (W : Walks thePr w A.in1 I fp wr n P St) (hcmp : CmpK w A.in1 H P bt) (hSf : S ∉ fp) (hw : ∀ b ∈ wr, H.get? b = none) (hS0 : H.get? S = none) :
    ∀ (k j : Nat) (s : Shared) (vb : Value) (c : Nat), n - (j + 1) = k → j + 1 ≤ n → St (j + 1) s.heap → Kf H s.heap → P (argBest bt j) vb →
    s.heap.get? S = some { cls := .type "list", dict := none, data := .seq #[vb, vb] c, slots := #[] } →
    (∀ v h' tk, P (argBest bt (n - 1)) v → Kf H h' → R (.ok (.ret v)) { s with heap := h', toks := tk }) →
    codeAny (model thePr w) A (.builtin "min.loop" ⟨[.ref I, .none, .ref S], []⟩) R s := by
  have hSw : S ∉ wr := fun h => hSf (W.sub _ h)
  have hname : (toString "min" ++ toString ".loop" : String) = "min.loop" := by decide
  have keep : ∀ {h h' : Heap}, Kf H h → (∀ b o, b ∉ wr → h.get? b = some o → h'.get? b = some o) → Kf H h' := fun k k' b o e => k' b o (fun hb => by rw [hw b hb] at e; cases e) (k b o e)
  have keepS : ∀ {h : Heap} {f : Obj → Obj}, Kf H h → Kf H (h.update S f) := fun k b o e => by
    have hb : S ≠ b := by rintro rfl; rw [hS0] at e; cases e
    exact (Heap.get?_update_other _ _ hb).trans (k b o e)
  intro k
  induction k with
  | zero =>
    intro j s vb c hk hj hst kf hPb hS hR
    have hin : j + 1 = n := by omega
    refine codeAny_builtin PySem.F.entry_min_loop ?_
    rw [Around.under_plainId PySem.F.plain_min_loop _]
    show wpAny _ A.in1 (seqItems? (.ref S) >>= _) _ _ s
    refine wpAny_bind (wpAny_seqItems hS rfl ?_)
    show wpAny _ A.in1 (tryCatch (pyNext (.ref I)) _ >>= _) _ _ s
    refine wpAny_bind (wpAny_tryCatch (W.done s _ _ (hin ▸ hst) fun h' tk hk' => ?_))
    have hS' := hk' S _ hSw hS
    show wpAny _ A.in1 (updateSeq S (fun _ => #[]) >>= _) _ _ _
    refine wpAny_bind ?_
    refine wpAny_updateSeq hS' rfl (wpAny_bind (wpAny_letGo (wpAny_pure ?_)))
    exact hR vb _ tk (by rw [← hin]; exact hPb) (keepS (keep kf hk'))
  | succ k ih =>
    intro j s vb c hk hj hst kf hPb hS hR
    have hlt : j + 1 < n := by omega
    refine codeAny_builtin PySem.F.entry_min_loop ?_
    rw [Around.under_plainId PySem.F.plain_min_loop _]
    show wpAny _ A.in1 (seqItems? (.ref S) >>= _) _ _ s
    refine wpAny_bind (wpAny_seqItems hS rfl ?_)
    show wpAny _ A.in1 (tryCatch (pyNext (.ref I)) _ >>= _) _ _ s
    refine wpAny_bind (wpAny_tryCatch (W.item (j + 1) s _ _ hlt hst fun v h' tk hP hst' hk' => ?_))
    have hS' := hk' S _ hSw hS
    have kf' := keep kf hk'
    show wpAny _ A.in1 (tryCatch (holding [v, v] (richCompare .Lt v vb >>= _)) _ >>= _) _ _ _
    refine wpAny_bind (wpAny_tryCatch (wpAny_holding (wpAny_bind (wpAny_mono (hcmp (j + 1) (argBest bt j) v vb _ _ hP hPb kf') (fun x s₂ h₂ => ?_) fun _ _ x => x))))
    obtain ⟨rfl, h2, tk2, rfl, k2⟩ := h₂
    replace k2 : Kf h' h2 := k2
    have hst2 : St (j + 1 + 1) h2 := W.frame _ _ _ hst' fun b _ o e => k2 b o e
    have hS2 := k2 _ _ hS'
    refine wpAny_bind (wpAny_holding (wpAny_truthy_bool ?_))
    refine wpAny_bind (wpAny_letGo (wpAny_pure ?_))
    cases hb : bt (j + 1) (argBest bt j) with
    | true =>
      simp only [if_true]
      refine wpAny_bind ?_
      refine wpAny_updateSeq hS2 rfl (wpAny_bind (wpAny_letGo ?_))
      rw [hname]
      refine wpAny_pure ⟨plainId_quiet PySem.F.plain_min_loop _, ih (j + 1) _ v _ (by omega) hlt (W.frame _ _ _ hst2 fun b hbf o e => ?_) (keepS (kf'.trans k2)) (by simp only [argBest, hb, if_true]; exact hP) (Heap.get?_update_self _ hS2 rfl)
        fun v' h'' tk'' hP' hk'' => hR v' h'' tk'' hP' hk''⟩
      exact (Heap.get?_update_other _ _ (fun h : S = b => hSf (by rw [h]; exact hbf))).trans e
    | false =>
      simp only [Bool.false_eq_true, if_false]
      refine wpAny_bind (wpAny_letGo ?_)
      rw [hname]
      exact wpAny_pure ⟨plainId_quiet PySem.F.plain_min_loop _, ih (j + 1) _ vb c (by omega) hlt hst2 (kf'.trans k2) (by simp only [argBest, hb, Bool.false_eq_true, if_false]; exact hPb) hS2 fun v' h'' tk'' hP' hk'' => hR v' h'' tk'' hP' hk''⟩
/- min(x), x given by its iterator -/
theorem callMin {x : Value} {Q : Value → Shared → Prop}
    (h : wpAny (model thePr w) A.in1 (pyIter x) (fun it s₂ => ∃ I fp wr n P St bt, it = .ref I ∧ Walks thePr w A.in1 I fp wr n P St ∧ St 0 s₂.heap ∧ (∀ b ∈ fp, b < s₂.heap.objs.size) ∧ 0 < n ∧ (∀ b ∈ wr, s.heap.get? b = none) ∧ Kf s.heap s₂.heap ∧ CmpK w A.in1 s.heap P bt ∧
      ∀ v h' tk, P (argBest bt (n - 1)) v → Kf s.heap h' → Q v { s₂ with heap := h', toks := tk }) E s) :
    wpAny (model thePr w) A (PySem.call (.builtin "min") [x]) Q E s := by
  have hname : (toString "min" ++ toString ".loop" : String) = "min.loop" := by decide
  refine call_function_tree PySem.F.kind_min PySem.F.plain_min PySem.F.entry_min (PySem.F.args_min1 _) ?_
  show wpAny _ A.in1 (Builtin.Builtins.bindParams "min" ["key", "default"] 0 ⟨[], []⟩ >>= _) _ _ s
  refine wpAny_bind (wpAny_of_eq (show Builtin.Builtins.bindParams "min" ["key", "default"] 0 ⟨[], []⟩ = pure [none, none] from rfl) ?_)
  refine wpAny_bind (wpAny_pure ?_)
  refine wpAny_bind (wpAny_mono h (fun it s₂ h₂ => ?_) fun _ _ e => e)
  obtain ⟨I, fp, wr, n, P, St, bt, rfl, W, hst, hfp, hn, hw, hk, hcmp, hQ⟩ := h₂
  refine wpAny_bind (wpAny_newObj_type ?_)
  have hSf : s₂.heap.objs.size ∉ fp := fun hm => Nat.lt_irrefl _ (hfp _ hm)
  have hSw : s₂.heap.objs.size ∉ wr := fun h => hSf (W.sub _ h)
  have hS0 : s.heap.get? s₂.heap.objs.size = none := by
    cases e : s.heap.get? s₂.heap.objs.size with
    | none => rfl
    | some o => exact absurd (Heap.lt_size (hk _ _ e)) (Nat.lt_irrefl _)
  rw [hname]
  refine wpAny_pure ⟨plainId_quiet PySem.F.plain_min_loop _, ?_⟩
  generalize hH : s₂.heap.push _ = H₀
  have hpush : ∀ b o, s₂.heap.get? b = some o → H₀.get? b = some o := fun b o e => by rw [← hH]; exact Heap.get?_push_of_some _ e
  have hSS : H₀.get? s₂.heap.objs.size = some { cls := .type "list", dict := none, data := .seq #[] 0, slots := #[] } := by rw [← hH]; exact Heap.get?_push_size _ rfl
  have hst0 : St 0 H₀ := W.frame _ _ _ hst fun b _ o e => hpush b o e
  refine codeAny_builtin PySem.F.entry_min_loop ?_
  rw [Around.under_plainId PySem.F.plain_min_loop _]
  show wpAny _ A.in1 (seqItems? (.ref s₂.heap.objs.size) >>= _) _ _ _
  refine wpAny_bind (wpAny_seqItems hSS rfl ?_)
  show wpAny _ A.in1 (tryCatch (pyNext (.ref I)) _ >>= _) _ _ _
  refine wpAny_bind (wpAny_tryCatch (W.item 0 _ _ _ hn hst0 fun v h' tk hP hst' hk' => ?_))
  have hS' := hk' _ _ hSw hSS
  show wpAny _ A.in1 (updateSeq s₂.heap.objs.size (fun _ => #[v, v]) >>= _) _ _ _
  refine wpAny_bind ?_
  refine wpAny_updateSeq hS' rfl ?_
  rw [hname]
  refine wpAny_pure ⟨plainId_quiet PySem.F.plain_min_loop _, minTail W hcmp hSf hw hS0 _ 0 _ v _ rfl hn (W.frame _ _ _ hst' fun b hbf o e => ?_) (fun b o e => ?_) hP (Heap.get?_update_self _ hS' rfl) fun v' h'' tk'' hP' hk'' => hQ v' h'' tk'' hP' hk''⟩
  · exact (Heap.get?_update_other _ _ (fun h : s₂.heap.objs.size = b => hSf (by rw [h]; exact hbf))).trans e
  · have hb : s₂.heap.objs.size ≠ b := by rintro rfl; rw [hS0] at e; cases e
    exact (Heap.get?_update_other _ _ hb).trans (hk' b o (fun hbw => by rw [hw b hbw] at e; cases e) (hpush _ _ (hk b o e)))
end
end Mine
set_option maxRecDepth 100000
set_option linter.all false
namespace Mine
open PySem PySem.Spec PySem.Calls PyProof.Rows PySem.W
/-! ## expressions that may touch the pile -/
noncomputable def XV (w : World) (A : Around) (env : Env) (I J : Shared → Prop) (e : Expr) (d : PyData) : Prop :=
  ∀ (s : Shared) (E : Value → Shared → Prop), I s → wpAny (model thePr w) A (eval e env) (fun v s' => (∃ as, Rds s'.heap v d as) ∧ J s' ∧ KT s.heap s'.heap) E s
noncomputable def XVs (w : World) (A : Around) (env : Env) (I J : Shared → Prop) (pos : Pos) (es : List Expr) (ds : List PyData) : Prop :=
  ∀ (s : Shared) (E : Value → Shared → Prop), I s → wpAny (model thePr w) A (spliced (backTo pos (starEach es env))) (fun vs s' => (∃ as, RdsAll s'.heap vs ds as) ∧ J s' ∧ KT s.heap s'.heap) E s
noncomputable def TX (w : World) (A : Around) (env : Env) (I J : Shared → Prop) (c : Expr) (b : Bool) : Prop :=
  ∀ (s : Shared) (E : Value → Shared → Prop), I s → wpAny (model thePr w) A (isTrue c env (eval c env)) (fun b' s' => b' = b ∧ J s') E s
theorem KT.refl {h : Heap} : KT h h := fun _ _ _ e => e
theorem KT.trans {a b c : Heap} (x : KT a b) (y : KT b c) : KT a c := fun p vs n e => y p vs n (x p vs n e)
theorem KT.of_keeps {s s' : Shared} (x : Keeps s s') : KT s.heap s'.heap := fun _ _ _ e => keeps_get x e
section
variable {w : World} {A : Around} {env : Env} {I J K : Shared → Prop}
variable {h0 : Heap} {L : Addr} {cl : List (Str × Addr)} {X : Addr → Prop} {hb : Heap} {bs : List (Str × Ent)} {ms : List (Addr × List PyData)} {pl : Pl} {os : OsState} {s s' : Shared}
theorem LG.keeps (g : LG h0 L cl X hb bs ms pl os s) (k : Keeps s s') : LG h0 L cl X hb bs ms pl os s' := by
  obtain ⟨h', tk, rfl, k⟩ := k
  exact ⟨g.lf.kf k, g.os, g.bare⟩
theorem LG.kg (S : LS h0 L cl X ms pl) (g : LG h0 L cl X hb bs ms pl os s) (k : KG s s') : LG h0 L cl X hb bs ms pl os s' := ⟨g.lf.kg S k, k.os.trans g.os, k.bare g.bare⟩
theorem LG.kt (g : LG h0 L cl X hb bs ms pl os s) (k : KG s s') : KT s.heap s'.heap := fun b vs n e => k.keep b _ (by
    rintro rfl
    obtain ⟨ps, _, ⟨_, e'⟩⟩ := g.lf.tabs.l
    rw [e] at e'; cases e') (by
    rintro rfl
    obtain ⟨ps, _, ⟨_, e'⟩⟩ := g.lf.tabs.s
    rw [e] at e'; cases e') e
theorem XVs.nil {pos : Pos} : XVs w A env I I pos [] [] := fun s E g => spliced_nil ⟨⟨[], .nil⟩, g, .refl⟩
theorem XVs.cons {pos : Pos} {e : Expr} {es : List Expr} {d : PyData} {ds : List PyData} (hx : XV w A env I J e d) (hf : flat d = true) (hr : XVs w A env J K pos es ds) (hs : autoParam (starEach (e :: es) env = (false, eval e env) :: starEach es env) byRfl) :
    XVs w A env I K pos (e :: es) (d :: ds) := fun s E g => by
  rw [hs]
  show wpAny _ A (spliced ((false, eval e env) :: backTo pos (starEach es env))) _ E s
  refine spliced_cons (wpAny_mono (hx s E g) (fun v s₁ h₁ => wpAny_mono (hr s₁ E h₁.2.1) (fun vs s₂ h₂ => ?_) fun _ _ x => x) fun _ _ x => x)
  exact ⟨⟨[] ++ h₂.1.choose, .cons (rds_kt h₂.2.2 h₁.1.choose_spec hf) h₂.1.choose_spec⟩, h₂.2.1, h₁.2.2.trans h₂.2.2⟩
theorem XV.tuple {k : Nat} {pos : Pos} {es : List Expr} {ds : List PyData} (h : XVs w A env I (LG h0 L cl X hb bs ms pl os) pos es ds) (hz : ds.length ≤ sizeLine) : XV w A env I (LG h0 L cl X hb bs ms pl os) (.Tuple es k pos) (.tuple ds) := fun s E g => by
  refine Tuple_ (wpAny_mono (h s E g) (fun vs s₁ h₁ => ?_) fun _ _ x => x)
  refine wpAny_newTuple ?_ (by rw [readsAll_length h₁.1.choose_spec]; exact hz)
  exact ⟨⟨_, .tuple (Heap.get?_push_size _ rfl) (by simpa using rdsAll_kp (kp_of (keeps_push s₁ _)) h₁.1.choose_spec)⟩, h₁.2.1.keeps (keeps_push _ _), h₁.2.2.trans (.of_keeps (keeps_push s₁ _))⟩
theorem XV.list {pos : Pos} {es : List Expr} {ds : List PyData} (h : XVs w A env I (LG h0 L cl X hb bs ms pl os) pos es ds) (hz : ds.length ≤ sizeLine) : XV w A env I (LG h0 L cl X hb bs ms pl os) (.List es pos) (.list ds) := fun s E g => by
  refine List_ (wpAny_mono (h s E g) (fun vs s₁ h₁ => ?_) fun _ _ x => x)
  refine wpAny_newList ?_ (by rw [readsAll_length h₁.1.choose_spec]; exact hz)
  exact ⟨⟨_, .list (Heap.get?_push_size _ rfl) (by simpa using rdsAll_kp (kp_of (keeps_push s₁ _)) h₁.1.choose_spec)⟩, h₁.2.1.keeps (keeps_push _ _), h₁.2.2.trans (.of_keeps (keeps_push s₁ _))⟩
theorem XV.neg {x : Expr} {pos : Pos} {i : Int} (hx : XV w A env I (LG h0 L cl X hb bs ms pl os) x (.int i)) : XV w A env I (LG h0 L cl X hb bs ms pl os) (.UnaryOp .USub x pos) (.int (-i)) := fun s E g => by
  refine wpAny_UnaryOp (wpAny_mono (hx s E g) (fun v s₁ h₁ => ?_) fun _ _ x => x)
  obtain ⟨⟨as, ra⟩, g₁, t₁⟩ := h₁
  first | refine rdsI ra fun _ => ?_ | refine rdsS ra fun _ => ?_ | refine rdsB ra ?_ | refine rdsN ra ?_
  exact PyProof.Rows.neg_int ⟨⟨[], .int _ _⟩, g₁.keeps (keeps_toks _ _), t₁⟩
/- left, then right, then the comparison -/
theorem XV.cmp {l r : Expr} {op : CmpOp} {pos : Pos} {a b : PyData} {g : Bool} {c : Bool} (hb' : behindInMarks op r = false) (hl : XV w A env I (LG h0 L cl X hb bs ms pl os) l a) (hr : EV w A env (LF h0 L cl X hb bs ms pl) g r b)
    (hop : ∀ (s : Shared) (E : Value → Shared → Prop) (x y : Value) (as bs : List Addr), Rds s.heap x a as → Rds s.heap y b bs → wpAny (model thePr w) A (compareOp op x y) (fun v s' => v = .bool c ∧ Keeps s s') E s) :
    XV w A env I (LG h0 L cl X hb bs ms pl os) (.Compare l [op] [r] pos) (.bool c) := fun s E g => by
  refine wpAny_Compare1 (wpAny_mono (hl s E g) (fun x s₁ h₁ => ?_) fun _ _ x => x) hb'
  refine wpAny_mono (hr s₁ E h₁.2.1.lf) (fun y s₂ h₂ => ?_) fun _ _ x => x
  refine wpAny_mono (hop s₂ E x y _ _ (rds_kp (kp_of h₂.2) h₁.1.choose_spec) h₂.1.choose_spec.1) (fun v s₃ h₃ => ?_) fun _ _ x => x
  have k := keeps_trans h₂.2 h₃.2
  exact ⟨⟨[], by rw [h₃.1]; exact .bool _⟩, h₁.2.1.keeps k, h₁.2.2.trans (.of_keeps k)⟩
theorem TX.cmp {l r : Expr} {op : CmpOp} {pos : Pos} {a b : PyData} {g : Bool} {c : Bool} (hb' : behindInMarks op r = false) (hl : XV w A env I (LG h0 L cl X hb bs ms pl os) l a) (hr : EV w A env (LF h0 L cl X hb bs ms pl) g r b)
    (hop : ∀ (s : Shared) (E : Value → Shared → Prop) (x y : Value) (as bs : List Addr), Rds s.heap x a as → Rds s.heap y b bs → wpAny (model thePr w) A (compareOp op x y) (fun v s' => v = .bool c ∧ Keeps s s') E s) :
    TX w A env I (LG h0 L cl X hb bs ms pl os) (.Compare l [op] [r] pos) c := fun s E g => by
  refine wpAny_isTrue_Compare1 (wpAny_mono (hl s E g) (fun x s₁ h₁ => ?_) fun _ _ x => x) hb'
  refine wpAny_mono (hr s₁ E h₁.2.1.lf) (fun y s₂ h₂ => ?_) fun _ _ x => x
  refine wpAny_mono (hop s₂ E x y _ _ (rds_kp (kp_of h₂.2) h₁.1.choose_spec) h₂.1.choose_spec.1) (fun v s₃ h₃ => ?_) fun _ _ x => x
  obtain ⟨rfl, k₃⟩ := h₃
  exact wpAny_truthy_bool ⟨rfl, h₁.2.1.keeps (keeps_trans h₂.2 k₃)⟩
theorem opNe {a b : PyData} (hu : A.units + 64 < cLine) (ha : SeqAt.shaped a = true) (hb' : SeqAt.shaped b = true) (s : Shared) (E : Value → Shared → Prop) (x y : Value) (as bs : List Addr) (rx : Rds s.heap x a as) (ry : Rds s.heap y b bs) :
    wpAny (model thePr w) A (compareOp .NotEq x y) (fun v s' => v = .bool (!PyData.eqv a b) ∧ Keeps s s') E s := SeqAt.compareNe_shaped rx.reads ry.reads ha hb' hu ⟨rfl, keeps_refl _⟩
theorem opEq {a b : PyData} (hu : A.units + 64 < cLine) (ha : SeqAt.shaped a = true) (hb' : SeqAt.shaped b = true) (s : Shared) (E : Value → Shared → Prop) (x y : Value) (as bs : List Addr) (rx : Rds s.heap x a as) (ry : Rds s.heap y b bs) :
    wpAny (model thePr w) A (compareOp .Eq x y) (fun v s' => v = .bool (PyData.eqv a b) ∧ Keeps s s') E s := SeqAt.compareEq_shaped rx.reads ry.reads ha hb' hu ⟨rfl, keeps_refl _⟩
theorem opGt {i j : Int} (s : Shared) (E : Value → Shared → Prop) (x y : Value) (as bs : List Addr) (rx : Rds s.heap x (.int i) as) (ry : Rds s.heap y (.int j) bs) :
    wpAny (model thePr w) A (compareOp .Gt x y) (fun v s' => v = .bool (decide (j < i)) ∧ Keeps s s') E s := rdsI rx fun _ => rdsI ry fun _ => PyProof.Rows.gt_int ⟨rfl, keeps_refl _⟩
theorem TX.ofTV {c : Expr} {b : Bool} (x : TV w A env (LF h0 L cl X hb bs ms pl) c b) : TX w A env (LG h0 L cl X hb bs ms pl os) (LG h0 L cl X hb bs ms pl os) c b := fun s E g =>
  wpAny_mono (x s E g.lf) (fun v s' h => ⟨h.1, g.keeps h.2⟩) fun _ _ x => x
theorem TX.cast {c : Expr} {b b' : Bool} (h : b = b') (x : TX w A env I J c b) : TX w A env I J c b' := h ▸ x
theorem TX.or2 {x y : Expr} {pos : Pos} (hx : TX w A env I J x false) (hy : TX w A env J K y false) : TX w A env I K (.BoolOp .Or [x, y] pos) false := fun s E g => by
  refine isTrue_or (wpAny_mono (hx s E g) (fun v s₁ h₁ => ?_) fun _ _ x => x)
  obtain ⟨rfl, g₁⟩ := h₁
  simp
  refine isTrue_or (wpAny_mono (hy s₁ E g₁) (fun v s₂ h₂ => ?_) fun _ _ x => x)
  obtain ⟨rfl, g₂⟩ := h₂
  simp
  exact isTrue_or_nil ⟨rfl, g₂⟩
theorem st_ifX {test : Expr} {body orelse rest : List Stmt} {pos : Pos} {b : Bool} {s : Shared} {E : Value → Shared → Prop} {Q : Flow → Shared → Prop} (g : I s) (ht : TX w A env I J test b)
    (next : ∀ s', J s' → wpAny (model thePr w) A (execs (if b then body else orelse) env) (fun f s'' => match f with | .next => wpAny (model thePr w) A (execs rest env) Q E s'' | f => Q f s'') E s') :
    wpAny (model thePr w) A (execs (.If test body orelse pos :: rest) env) Q E s := by
  refine wpAny_execs_cons (wpAny_If (wpAny_mono (ht s E g) (fun v s₁ h₁ => ?_) fun _ _ x => x))
  obtain ⟨rfl, k⟩ := h₁
  have := next s₁ k
  cases v <;> exact wpAny_mono this (fun f s' h => by cases f <;> exact h) fun _ _ x => x
end
end Mine
set_option maxRecDepth 100000
set_option linter.all false
namespace Mine
open PySem PySem.Spec PySem.Calls PyProof.Rows PySem.W
theorem lk_push : typeLookup (.type "list") "push" = pure none := by rw [typeLookup_type, builtinLookup_eq_fast]; kernel_rfl
theorem lk_popfrom : typeLookup (.type "list") "pop_from" = pure none := by rw [typeLookup_type, builtinLookup_eq_fast]; kernel_rfl
theorem lk_onlyws : typeLookup (.type "list") "is_onlyws" = pure none := by rw [typeLookup_type, builtinLookup_eq_fast]; kernel_rfl
theorem lk_lpop : typeLookup (.type "list") "pop" = pure (some (.builtin "list.pop")) := by rw [typeLookup_type, builtinLookup_eq_fast]; kernel_rfl
structure TOk (st : Int) (ts : List (Str × Str)) : Prop where
  len : ts.length ≤ 1000
  parts : ∀ q ∈ ts, q.1.length ≤ 1000 ∧ q.2.length ≤ 1000
  all : 0 ≤ st + lenOf ts ∧ st + lenOf ts < 2 ^ 63
section
variable {w : World} {A : Around} {env : Env}
variable {h0 : Heap} {L : Addr} {cl : List (Str × Addr)} {X : Addr → Prop} {hb : Heap} {bs : List (Str × Ent)} {ms : List (Addr × List PyData)} {os : OsState} {s s' : Shared}
variable {p : Addr} {st : Int} {ts : List (Str × Str)} {x y : Str} {px pos apos : Pos}
theorem MAt.get {h : Heap} {a : Addr} {nm q : Str} {stt : Stmt} {dV : Value} {c : Addr} {cl'} (x : MAt h a nm q stt dV c cl') : ∃ o pm ct, h.get? a = some o ∧ o.cls = .type "function" ∧ o.data = .func (fdM nm q stt dV pm ct c cl') := x.1
/- a call of a method of the pile without arguments -/
theorem meth0 {pl : Pl} {f : Addr} {name q : Str} {stt : Stmt} {dV : Value} {c : Addr} {cl'} {z : Option Value} {plain : Sem Bool} {E : Value → Shared → Prop} {Q : Value → Shared → Prop} (S : LS h0 L cl X ms pl) (g : LF h0 L cl X hb bs ms pl s.heap) {ps : List PyData} (hp : pl = some (p, st, ps)) (hn : NV env (LF h0 L cl X hb bs ms pl) x (.ref p))
    (F : MAt s.heap f name q stt dV c cl') (hf : accNs.lookup name = some f) (hsh : name ≠ "_initial_size") (hB : typeLookup (.type "list") name = pure z)
    (he : eval (.Call (.Attribute (.Name x px) name apos) [] [] pos) env = (do
      let ov ← eval (.Name x px) env
      standAt apos.atName
      let (f, first) ← holding [ov] (getMethod ov name plain)
      callWith pos f first (backTo pos (starEach [] env)) []))
    (hc : wpAny (model thePr w) A (PySem.call (.ref f) [.ref p]) Q E s) :
    wpAny (model thePr w) A (eval (.Call (.Attribute (.Name x px) name apos) [] [] pos) env) Q E s := by
  obtain ⟨of, pm, ct, hof, hoc, hod⟩ := F.get
  exact wp_meth0 g hn (g.defs S).acc (g.pile _ hp).1 hf hof hoc hod hsh hB he hc
theorem XV.len {py : Pos} (hA : Room 3 A) (S : LS h0 L cl X ms (some (p, st, ts.map prD))) (T : TOk st ts) (hl : NV env (LF h0 L cl X hb bs ms (some (p, st, ts.map prD))) x (.builtin "len")) (hn : NV env (LF h0 L cl X hb bs ms (some (p, st, ts.map prD))) y (.ref p)) :
    XV w A env (LG h0 L cl X hb bs ms (some (p, st, ts.map prD)) os) (LG h0 L cl X hb bs ms (some (p, st, ts.map prD)) os) (.Call (.Name x px) [.Name y py] [] pos) (.int (st + lenOf ts)) := fun s E g =>
  have D := g.lf.defs S
  wp_call1 g.lf hl .builtin hn (lenP hA (g.lf.base S) D.acc g.lf.tabs D.bm D.len (g.lf.pile _ rfl).1 T.parts T.all fun u s' k => ⟨⟨[], .int _ _⟩, g.kg S k, g.kt k⟩)
theorem XV.str {py : Pos} (hA : Room 4 A) (S : LS h0 L cl X ms (some (p, st, ts.map prD))) (T : TOk st ts) (hl : NV env (LF h0 L cl X hb bs ms (some (p, st, ts.map prD))) x (.type "str")) (hn : NV env (LF h0 L cl X hb bs ms (some (p, st, ts.map prD))) y (.ref p)) :
    XV w A env (LG h0 L cl X hb bs ms (some (p, st, ts.map prD)) os) (LG h0 L cl X hb bs ms (some (p, st, ts.map prD)) os) (.Call (.Name x px) [.Name y py] [] pos) (.str (Txt.join "" (texts ts))) := fun s E g =>
  have D := g.lf.defs S
  wp_call1 g.lf hl .type hn (strP hA (g.lf.base S) D.acc g.lf.tabs D.bm D.str (g.lf.pile _ rfl).1 T.len T.parts fun u s' k => ⟨⟨[], .str _ _⟩, g.kg S k, g.kt k⟩)
theorem XV.only {plain : Sem Bool} (hA : Room 5 A) (S : LS h0 L cl X ms (some (p, st, ts.map prD))) (T : TOk st ts) (hn : NV env (LF h0 L cl X hb bs ms (some (p, st, ts.map prD))) x (.ref p))
    (he : eval (.Call (.Attribute (.Name x px) "is_onlyws" apos) [] [] pos) env = (do
      let ov ← eval (.Name x px) env
      standAt apos.atName
      let (f, first) ← holding [ov] (getMethod ov "is_onlyws" plain)
      callWith pos f first (backTo pos (starEach [] env)) [])) :
    XV w A env (LG h0 L cl X hb bs ms (some (p, st, ts.map prD)) os) (LG h0 L cl X hb bs ms (some (p, st, ts.map prD)) os) (.Call (.Attribute (.Name x px) "is_onlyws" apos) [] [] pos) (.bool (onlyws st ts)) := fun s E g =>
  have D := g.lf.defs S
  meth0 S g.lf rfl hn D.only rfl (by decide) lk_onlyws he (only_ok hA (g.lf.base S) D g.lf.tabs (g.lf.pile _ rfl).1 T.len T.parts T.all fun s' k => ⟨⟨[], .bool _⟩, g.kg S k, g.kt k⟩)
theorem XV.part {plain : Sem Bool} (hA : Room 2 A) (S : LS h0 L cl X ms (some (p, st, ts.map prD))) (T : TOk st ts) (hn : NV env (LF h0 L cl X hb bs ms (some (p, st, ts.map prD))) x (.ref p))
    (he : eval (.Call (.Attribute (.Name x px) "part_count" apos) [] [] pos) env = (do
      let ov ← eval (.Name x px) env
      standAt apos.atName
      let (f, first) ← holding [ov] (getMethod ov "part_count" plain)
      callWith pos f first (backTo pos (starEach [] env)) [])) :
    XV w A env (LG h0 L cl X hb bs ms (some (p, st, ts.map prD)) os) (LG h0 L cl X hb bs ms (some (p, st, ts.map prD)) os) (.Call (.Attribute (.Name x px) "part_count" apos) [] [] pos) (.int (ts.length : Int)) := fun s E g => by
  have D := g.lf.defs S
  have hl : (ts.map prD).length = ts.length := List.length_map ..
  exact meth0 S g.lf rfl hn D.part rfl (by decide) lk_part_count he (part_count_ok hA (g.lf.base S) D.opq D.acc D.c150 D.part (g.lf.pile _ rfl).1 (by rw [hl]; exact T.len) fun u s' k => ⟨⟨[], by rw [hl]; exact .int _ _⟩, g.keeps k, .of_keeps k⟩)
theorem kt_pile {ps : List PyData} {h h' : Heap} (P : PileAt h p st ps) (k : KBut p h h') : KT h h' := fun b vs n e => k _ _ (by
  rintro rfl
  obtain ⟨o, items, n', dx, u, ho, hc, _⟩ := P
  rw [e] at ho; cases ho; cases hc) e
theorem flat_prs (ts : List (Str × Str)) : flatAll (ts.map prD) = true := flatAll_of fun d hd => by obtain ⟨q, _, rfl⟩ := List.mem_map.mp hd; rfl
/- the pile's pop: its last part -/
theorem XV.pop {plain : Sem Bool} {q : Str × Str} (hA : Room 3 A) (S : LS h0 L cl X ms (some (p, st, (ts ++ [q]).map prD))) (T : TOk st (ts ++ [q])) (hn : NV env (LF h0 L cl X hb bs ms (some (p, st, (ts ++ [q]).map prD))) x (.ref p))
    (he : eval (.Call (.Attribute (.Name x px) "pop" apos) [] [] pos) env = (do
      let ov ← eval (.Name x px) env
      standAt apos.atName
      let (f, first) ← holding [ov] (getMethod ov "pop" plain)
      callWith pos f first (backTo pos (starEach [] env)) [])) :
    XV w A env (LG h0 L cl X hb bs ms (some (p, st, (ts ++ [q]).map prD)) os) (LG h0 L cl X hb bs ms (some (p, st, ts.map prD)) os) (.Call (.Attribute (.Name x px) "pop" apos) [] [] pos) (prD q) := fun s E g => by
  have D := g.lf.defs S
  have P := (g.lf.pile _ rfl).1
  refine meth0 S g.lf rfl hn D.pop rfl (by decide) lk_lpop he (pop_ok hA (g.lf.base S) D.opq D.acc D.c150 D.c113 D.part D.pop P (by rw [List.length_map]; exact T.len) (flat_prs _) (fun h0 => by simp at h0) fun ps' d v h' tk e rv P' k => ?_)
  rw [List.map_append] at e
  obtain ⟨e1, e2⟩ := List.append_inj' e rfl
  cases e2
  subst e1
  exact ⟨⟨[], rv⟩, ⟨g.lf.pmut S k P' (flat_prs _), g.os, g.bare⟩, kt_pile P k⟩
theorem XV.pop0 {plain : Sem Bool} (hA : Room 3 A) (S : LS h0 L cl X ms (some (p, st, []))) (hn : NV env (LF h0 L cl X hb bs ms (some (p, st, []))) x (.ref p))
    (he : eval (.Call (.Attribute (.Name x px) "pop" apos) [] [] pos) env = (do
      let ov ← eval (.Name x px) env
      standAt apos.atName
      let (f, first) ← holding [ov] (getMethod ov "pop" plain)
      callWith pos f first (backTo pos (starEach [] env)) [])) :
    XV w A env (LG h0 L cl X hb bs ms (some (p, st, [])) os) (LG h0 L cl X hb bs ms (some (p, st, [])) os) (.Call (.Attribute (.Name x px) "pop" apos) [] [] pos) (.tuple [.str "", .str ""]) := fun s E g => by
  have D := g.lf.defs S
  exact meth0 S g.lf rfl hn D.pop rfl (by decide) lk_lpop he (pop_ok hA (g.lf.base S) D.opq D.acc D.c150 D.c113 D.part D.pop (g.lf.pile _ rfl).1 (Nat.zero_le _) rfl (fun _ v s' rv k => ⟨⟨[], rv⟩, g.keeps k, .of_keeps k⟩) fun ps' d v h' tk e rv P' k => by cases ps' <;> cases e)
end
end Mine
set_option maxRecDepth 100000
set_option linter.all false
namespace Mine
open PySem PySem.Spec PySem.Calls PyProof.Rows PySem.W
section
variable {w : World} {A : Around} {env : Env} {s : Shared} {E : Value → Shared → Prop} {Q : Flow → Shared → Prop}
variable {h0 : Heap} {L : Addr} {cl : List (Str × Addr)} {X : Addr → Prop} {hb : Heap} {bs : List (Str × Ent)} {ms : List (Addr × List PyData)} {pl : Pl}
variable {p : Addr} {st : Int} {ps : List PyData} {x : Str} {px pos apos cpos : Pos} {plain : Sem Bool}
theorem rdsAll_two {h : Heap} {vs : List Value} {a b : PyData} {as : List Addr} (r : RdsAll h vs [a, b] as) : ∃ u v cs ds, vs = [u, v] ∧ Rds h u a cs ∧ Rds h v b ds := by
  refine rds2 r fun x1z x2z b1z b2z r1 r2 => ?_
  exact ⟨_, _, _, _, rfl, r1, r2⟩
theorem rdsAll_one {h : Heap} {vs : List Value} {a : PyData} {as : List Addr} (r : RdsAll h vs [a] as) : ∃ u cs, vs = [u] ∧ Rds h u a cs := by
  refine rds1 r fun x1z b1z r1 => ?_
  exact ⟨_, _, rfl, r1⟩
theorem rds_int' {h : Heap} {v : Value} {i : Int} {as : List Addr} (r : Rds h v (.int i) as) : ∃ u, v = .int i u := by cases r; exact ⟨_, rfl⟩
theorem LS.rePl {ps' : List PyData} (S : LS h0 L cl X ms (some (p, st, ps))) : LS h0 L cl X ms (some (p, st, ps')) := ⟨S.base, S.defs, S.tabs0, S.hL, S.hcn, S.hc, S.apart, S.hm, S.nd, fun q hq => by cases hq; exact S.hp (p, st, ps) rfl, S.xL, S.xc, S.xm, fun q hq => by cases hq; exact S.xp (p, st, ps) rfl, S.xt⟩
/- x.push(a, b) -/
theorem st_push {e1 e2 : Expr} {f1 f2 : Bool} {a b : Str} {rest : List Stmt} (hA : Room 2 A) (S : LS h0 L cl X ms (some (p, st, ps))) (g : LF h0 L cl X hb bs ms (some (p, st, ps)) s.heap) (hn : NV env (LF h0 L cl X hb bs ms (some (p, st, ps))) x (.ref p)) (hz : ps.length ≤ 1000)
    (h1 : EV w A env (LF h0 L cl X hb bs ms (some (p, st, ps))) f1 e1 (.str a)) (h2 : EV w A env (LF h0 L cl X hb bs ms (some (p, st, ps))) f2 e2 (.str b))
    (he : eval (.Call (.Attribute (.Name x px) "push" apos) [e1, e2] [] cpos) env = (do
      let ov ← eval (.Name x px) env
      standAt apos.atName
      let (f, first) ← holding [ov] (getMethod ov "push" plain)
      callWith cpos f first (backTo cpos (starEach [e1, e2] env)) []))
    (hs1 : starEach [e1, e2] env = (false, eval e1 env) :: starEach [e2] env) (hs2 : starEach [e2] env = (false, eval e2 env) :: starEach [] env) (hi : interactive env = false)
    (next : ∀ h' tk, LF h0 L cl X hb bs ms (some (p, st, ps ++ [.tuple [.str a, .str b]])) h' → wpAny (model thePr w) A (execs rest env) Q E { s with heap := h', toks := tk }) :
    wpAny (model thePr w) A (execs (.Expr (.Call (.Attribute (.Name x px) "push" apos) [e1, e2] [] cpos) pos :: rest) env) Q E s := by
  have hP := g.pile _ rfl
  obtain ⟨of, pm, ct, hof, hoc, hod⟩ := (g.defs S).push.get
  refine wpAny_execs_cons (wpAny_Expr (wp_methP (fd := fdM "push" "_Accumulator.push" (mSt 1) .none pm ct 97 []) g hn (g.defs S).acc hP.1 rfl hof hoc (by decide) lk_push he ?_) (hi := hi))
  have ha := EVs.cons (pos := cpos) mono_LF h1.weak (EVs.cons mono_LF h2.weak .nil hs2) hs1 s E g
  rw [hs1] at ha ⊢
  refine callWith_of (P := LF h0 L cl X hb bs ms (some (p, st, ps))) (by show ((false || (backTo cpos (starEach [e2] env)).any (·.1)) || false) = false; rw [hs2]; rfl) (KPr.fn (fun h g => by obtain ⟨of, pm, ct, hof, hoc, hod⟩ := (g.defs S).push.get; exact ⟨of, _, hof, hod⟩) _) (evalArgs_plain (evs_goK ha fun vs as hp tk ra k₁ => ?_))
  have g₁ := g.kf k₁
  obtain ⟨u, v, cs, ds, rfl, r1, r2⟩ := rdsAll_two ra
  refine ⟨g₁, push_ok hA (g₁.base S) (g₁.defs S).acc (g₁.defs S).push (g₁.pile _ rfl).1 hP.2 hz r1 r2 fun h' tk' P' k => next h' tk' (g₁.pmut S k P' (flatAll_append hP.2 rfl))⟩
/- y = x.pop_from(e) -/
theorem st_popfrom {y : Str} {py : Pos} {e : Expr} {f : Bool} {k : Nat} {rest : List Stmt} (hA : Room 2 A) (S : LS h0 L cl X ms (some (p, st, ps))) (g : LF h0 L cl X hb bs ms (some (p, st, ps)) s.heap) (hn : NV env (LF h0 L cl X hb bs ms (some (p, st, ps))) x (.ref p)) (hz : ps.length ≤ 1000) (hk : k ≤ ps.length)
    (hL : env.locals = L) (hkk : env.scope.kind = .function) (hy : NK env cl y)
    (h1 : EV w A env (LF h0 L cl X hb bs ms (some (p, st, ps))) f e (.int k))
    (he : eval (.Call (.Attribute (.Name x px) "pop_from" apos) [e] [] cpos) env = (do
      let ov ← eval (.Name x px) env
      standAt apos.atName
      let (f, first) ← holding [ov] (getMethod ov "pop_from" plain)
      callWith cpos f first (backTo cpos (starEach [e] env)) []))
    (hs1 : starEach [e] env = (false, eval e env) :: starEach [] env) (hsw : swapsWith (.Call (.Attribute (.Name x px) "pop_from" apos) [e] [] cpos) (some (.Name y py)) pos.line env = pure false)
    (next : ∀ h' tk, LF h0 L cl X hb ((y, .d (.list (ps.drop k))) :: bs) ms (some (p, st, ps.take k)) h' → wpAny (model thePr w) A (execs rest env) Q E { s with heap := h', toks := tk }) :
    wpAny (model thePr w) A (execs (.Assign [.Name y py] (.Call (.Attribute (.Name x px) "pop_from" apos) [e] [] cpos) pos :: rest) env) Q E s := by
  have hP := g.pile _ rfl
  obtain ⟨of, pm, ct, hof, hoc, hod⟩ := (g.defs S).popf.get
  refine wpAny_execs_cons (wpAny_Assign_Name (wp_methP (fd := fdM "pop_from" "_Accumulator.pop_from" (mSt 2) (.ref 99) pm ct 105 []) g hn (g.defs S).acc hP.1 rfl hof hoc (by decide) lk_popfrom he ?_) hsw)
  have ha := EVs.cons (pos := cpos) mono_LF h1 .nil hs1 s E g
  rw [hs1] at ha ⊢
  refine callWith_of (P := LF h0 L cl X hb bs ms (some (p, st, ps))) rfl (KPr.fn (fun h g => by obtain ⟨of, pm, ct, hof, hoc, hod⟩ := (g.defs S).popf.get; exact ⟨of, _, hof, hod⟩) _) (evalArgs_plain (evs_goK ha fun vs as hp tk ra k₁ => ?_))
  have g₁ := g.kf k₁
  obtain ⟨u, cs, rfl, r1⟩ := rdsAll_one ra
  obtain ⟨t, rfl⟩ := rds_int' r1
  have hft : flatAll (ps.take k) = true := flatAll_of fun d hd => flatAll_iff.mp hP.2 d (List.mem_of_mem_take hd)
  refine ⟨g₁, popfrom_ok hA (g₁.base S) (g₁.defs S).acc (g₁.defs S).d99 (g₁.defs S).popf (g₁.pile _ rfl).1 hP.2 hz hk fun v as h' tk' rv hnew P' kb => ?_⟩
  have g₂ := g₁.pmut S kb P' hft
  have S₂ : LS h0 L cl X ms (some (p, st, ps.take k)) := S.rePl
  refine wp_storeL S₂ g₂ (e := .d (.list (ps.drop k))) ⟨as, rv, fun a ha q hq hh => ?_⟩ hL hkk hy fun h2 tk2 g₃ _ => next h2 tk2 g₃
  obtain ⟨it, n, e1, _⟩ := g₁.muts q hq
  have := hnew a ha
  rw [hh] at this
  rw [this] at e1; cases e1
end
end Mine
set_option maxRecDepth 100000
set_option linter.all false
namespace Mine
open PySem PySem.Spec PySem.Calls PyProof.Rows PySem.W
section
variable {w : World} {A : Around} {env : Env} {s : Shared} {E : Value → Shared → Prop} {Q : Flow → Shared → Prop}
variable {h0 : Heap} {L : Addr} {cl : List (Str × Addr)} {X : Addr → Prop} {hb : Heap} {bs : List (Str × Ent)} {ms ms' : List (Addr × List PyData)} {pl : Pl}
noncomputable abbrev prI (q : Int × Int) : PyData := .tuple [.int q.1, .int q.2]
theorem rds_prI {h : Heap} {v : Value} {q : Int × Int} {as : List Addr} (r : Rds h v (prI q) as) : ∃ t n a b, v = .ref t ∧ h.get? t = some (tupO #[.int q.1 a, .int q.2 b] n) := by
  refine rdsT2 r fun t n x y _ _ ho r1 r2 => ?_
  revert ho
  exact rdsI r1 fun a => rdsI r2 fun b ho => ⟨t, n, a, b, rfl, ho⟩
/- x, y = k.pop(), by order -/
theorem st_popTwo {x y z : Str} {px py pz apos cpos pos p' : Pos} {kk : Nat} {rest : List Stmt} {plain : Sem Bool} {a : Addr} {ds : List PyData} {q : Int × Int} (hh : A.handled = none) (S : LS h0 L cl X ms pl) (g : LF h0 L cl X hb bs ms pl s.heap) (hn : NV env (LF h0 L cl X hb bs ms pl) z (.ref a)) (hm : (a, ds ++ [prI q]) ∈ ms) (hz : ds.length < 1000)
    (hms : ∀ p ∈ ms', p = (a, ds) ∨ (p ∈ ms ∧ p.1 ≠ a)) (hfst : ms'.map (·.1) = ms.map (·.1)) (hL : env.locals = L) (hk : env.scope.kind = .function) (hx : NK env cl x) (hy : NK env cl y)
    (he : eval (.Call (.Attribute (.Name z pz) "pop" apos) [] [] cpos) env = (do
      let ov ← eval (.Name z pz) env
      standAt apos.atName
      let (f, first) ← holding [ov] (getMethod ov "pop" plain)
      callWith cpos f first (backTo cpos (starEach [] env)) []))
    (hs : swapsWithSole [.Tuple [.Name x px, .Name y py] kk p'] (.Call (.Attribute (.Name z pz) "pop" apos) [] [] cpos) pos.line env = pure false) (hw : swappedStores [.Tuple [.Name x px, .Name y py] kk p'] (.Call (.Attribute (.Name z pz) "pop" apos) [] [] cpos) env = pure none)
    (he1 : (assignEach [.Tuple [.Name x px, .Name y py] kk p'] env).map (·.2) = [assign (.Tuple [.Name x px, .Name y py] kk p') env])
    (he2 : (assignEach [.Name x px, .Name y py] env).map (·.2) = [assign (.Name x px) env, assign (.Name y py) env]) (he3 : (assignEach [.Name x px, .Name y py] env).length = 2) (he4 : (assignEach [.Name x px, .Name y py] env).findIdx? (·.1) = none)
    (next : ∀ h' tk, LF h0 L cl X hb ((y, .d (.int q.2)) :: (x, .d (.int q.1)) :: bs) ms' pl h' → wpAny (model thePr w) A (execs rest env) Q E { s with heap := h', toks := tk }) :
    wpAny (model thePr w) A (execs (.Assign [.Tuple [.Name x px, .Name y py] kk p'] (.Call (.Attribute (.Name z pz) "pop" apos) [] [] cpos) pos :: rest) env) Q E s := by
  have h1000 : 1000 ≤ sizeLine := by decide
  obtain ⟨it, n, ho, r, fl⟩ := g.muts _ hm
  replace ho : s.heap.get? a = some (listO it n) := ho
  replace r : RdsAll s.heap it.toList (ds ++ [prI q]) [] := r
  have hsz : it.size = ds.length + 1 := by have := readsAll_length r; rw [Array.length_toList] at this; simpa using this
  obtain ⟨v, cs, hv, rv⟩ := readsAll_get r (i := ds.length) (d := prI q) (by simp)
  obtain ⟨t, nt, u1, u2, rfl, ht⟩ := rds_prI rv
  have hv' : it[it.size - 1]? = some (.ref t) := by rw [hsz]; simpa using hv
  have hfd : flatAll ds = true := flatAll_of fun d hd => flatAll_iff.mp fl d (List.mem_append_left _ hd)
  refine wpAny_execs_cons (wpAny_Assign_stores (MethodCall_ (pl := plain) (hn _ _ _ _ _ _ g ?_) he) hs hw)
  refine Copied.getMethod_pop_at ho rfl rfl ?_
  refine callWith_of (args := []) (keywords := []) (P := LF h0 L cl X hb bs ms pl) rfl (KPr.builtin _) (PyProof.Rows.evalArgs_none ⟨g, ?_⟩)
  refine Copied.pop_at ho hv' (fun h₁ sb ho' => ?_) (by omega)
  have r' : RdsAll h₁ it.pop.toList ds [] := by
    have h1 : it.pop.toList = it.toList.take ds.length := by rw [Array.toList_pop, List.dropLast_eq_take, Array.length_toList, hsz]; rfl
    rw [h1]
    have := rdsAll_take r ds.length
    rw [List.take_left] at this
    exact rdsAll_lbut ho sb.extBut this (fun _ h => nomatch h)
  have g₁ := g.mut S hm sb.extBut ho' r' hfd hms hfst
  have S₁ := S.reMs hfst
  have ht₁ : h₁.get? t = some (tupO _ nt) := sb.extBut _ _ (by rintro rfl; rw [ho] at ht; simp at ht) ht
  rw [he1]
  refine assignAll_one (wpAny_assign_Tuple hh ⟨_, ht₁, rfl, _, rfl⟩ he3 he4 fun h₂ he₂ => ?_)
  rw [he2]
  have g₂ := g₁.kf (fun c o e => he₂ c o (Nat.ne_of_lt (Heap.lt_size e)) e : Kf h₁ h₂)
  refine assignInOrder_cons (wpAny_assign_Name (wp_storeL S₁ g₂ (e := .d (.int q.1)) ⟨[], .int _ _, fun _ h => nomatch h⟩ hL hk hx fun h₃ tk₃ g₃ _ => ?_))
  refine assignInOrder_cons (wpAny_assign_Name (wp_storeL S₁ g₃ (e := .d (.int q.2)) ⟨[], .int _ _, fun _ h => nomatch h⟩ hL hk hy fun h₄ tk₄ g₄ _ => ?_))
  exact assignInOrder_nil (next h₄ _ g₄)
/-! ## min of pairs -/
noncomputable def ltI (D : List (Int × Int)) (i j : Nat) : Bool := lexLt [((D.getD i (0, 0)).1, (D.getD j (0, 0)).1), ((D.getD i (0, 0)).2, (D.getD j (0, 0)).2)]
noncomputable def minI (D : List (Int × Int)) : Int × Int := D.getD (argBest (ltI D) (D.length - 1)) (0, 0)
theorem EV.minP {G : Heap → Prop} {f : Bool} {x : Str} {e : Expr} {px pos : Pos} {D : List (Int × Int)} (hm : Mono G) (hh : A.handled = none) (hu : A.units + 64 < cLine) (hn : NV env G x (.builtin "min")) (hx : EV w A env G f e (.list (D.map prI))) (hne : D ≠ [])
    (hs : autoParam (starEach [e] env = (false, eval e env) :: starEach [] env) byRfl) : EV w A env G true (.Call (.Name x px) [e] [] pos) (prI (minI D)) := by
  refine .call hm hn .builtin (.cons hm hx.weak .nil hs) (fun s E vs as g r => ?_) hs
  obtain ⟨v, cs, rfl, rv⟩ := rdsAll_one r
  obtain ⟨a, it, n, rfl, rfl, ho, r⟩ := rds_flatlist rv (flatAll_of fun d hd => by obtain ⟨q, _, rfl⟩ := List.mem_map.mp hd; rfl)
  have hl : s.heap.IsList a it := ⟨_, ho, rfl, _, rfl⟩
  have hsz : it.size = D.length := by have := readsAll_length r; rwa [Array.length_toList, List.length_map] at this
  have hpos : 0 < it.size := by rw [hsz]; exact List.length_pos_iff.mpr hne
  have at' : ∀ i v, it[i]? = some v → i < D.length ∧ Rds s.heap v (prI (D.getD i (0, 0))) [] := fun i v hv => by
    have hi : i < D.length := by rw [← hsz]; exact (Array.getElem?_eq_some_iff.mp hv).1
    have hd : (D.map prI)[i]? = some (prI (D.getD i (0, 0))) := by simp [hi]
    obtain ⟨v', bs, hv', rv⟩ := readsAll_get r hd
    have : v' = v := by
      have : it.toList[i]? = some v := by simpa using hv
      rw [hv'] at this; cases this; rfl
    subst this
    have := rds_flat rv rfl
    subst this
    exact ⟨hi, rv⟩
  refine callMin (wpAny_pyIter_list hl ⟨s.heap.objs.size, [s.heap.objs.size, a], [s.heap.objs.size], _, _, _, ltI D, rfl, Walks.list (A := A.in1) hh _ a (Nat.ne_of_lt (Heap.lt_size ho)) it, ⟨⟨_, Heap.get?_push_size _ rfl, rfl, rfl⟩, hl.push _⟩, ?_, hpos, fun b hb => by simp at hb; subst hb; exact fresh_size _, fun b o e => Heap.get?_push_of_some _ e, ?_, ?_⟩)
  · intro b hb
    show b < (s.heap.push _).objs.size
    rw [Heap.size_push]
    simp at hb
    rcases hb with rfl | rfl
    · exact Nat.lt_succ_self _
    · exact Nat.lt_succ_of_lt (Heap.lt_size ho)
  · intro i j vi vj s' E' hi hj kf
    have hA1 : A.in1.units < cLine := by show A.units + 1 < _; omega
    exact LtD.tup2 _ _ _ _ w A.in1 s' E' vi vj [] [] hA1 (rds_kp (.of_keep kf) (at' i vi hi).2) (rds_kp (.of_keep kf) (at' j vj hj).2)
  · intro v h' tk hP kf
    have := (at' _ v hP).2
    rw [hsz] at this
    exact ⟨⟨[], rds_kp (.of_keep kf) this, fun _ h => nomatch h⟩, ⟨h', tk, rfl, kf⟩⟩
end
end Mine
set_option maxRecDepth 100000
set_option linter.all false
namespace Mine
open PySem PySem.Spec PySem.Calls PyProof.Rows PySem.W
/-! ## the ranks' loop: its data -/
noncomputable def pcR (Pc : List (Str × Str)) (r : Int) : Str × Str := Pc.getD r.toNat ("", "")
noncomputable def snR (Sn : List (List Nat)) (r : Int) : List Nat := Sn.getD r.toNat []
noncomputable abbrev pcsD (Pc : List (Str × Str)) : PyData := .list (Pc.map prD)
noncomputable abbrev sntD (Sn : List (List Nat)) : PyData := .list (Sn.map strD)
structure DOk (S : Six) (Pc : List (Str × Str)) (Sn : List (List Nat)) : Prop where
  six : S.Ok
  pc6 : Pc.length = 6
  sn6 : Sn.length = 6
  st : 0 ≤ S.st ∧ S.st ≤ 3
  cat : ∀ r ∈ R6, (pcR Pc r).1 ++ (pcR Pc r).2 = mkS (snR Sn r)
  sz : ∀ r ∈ R6, S.sz r = (snR Sn r).length
  sl : ∀ r ∈ R6, (snR Sn r).length ≤ 100
  ok : ∀ r ∈ R6, PyData.strOk (pcR Pc r).1 = true ∧ PyData.strOk (pcR Pc r).2 = true
noncomputable abbrev tsD (Pc : List (Str × Str)) (R : List Int) : List PyData := (R.map (pcR Pc)).map prD
noncomputable abbrev kD (S : Six) (K : List Int) : List PyData := K.map fun r => prI (S.sz r, r)
noncomputable def posK (S : Six) (K : List Int) (n : Int) : Nat := (K.filter fun r => decide (S.sz r ≤ S.sz n)).length
theorem pc_at {S : Six} {Pc Sn} (D : DOk S Pc Sn) {r : Int} (hr : r ∈ R6) : (Pc.map prD)[r.toNat]? = some (prD (pcR Pc r)) := by
  obtain ⟨n, hn, rfl⟩ := R6_mem hr
  have : n < Pc.length := by rw [D.pc6]; exact hn
  simp [pcR, this]
theorem sn_at {S : Six} {Pc Sn} (D : DOk S Pc Sn) {r : Int} (hr : r ∈ R6) : (Sn.map strD)[r.toNat]? = some (strD (snR Sn r)) := by
  obtain ⟨n, hn, rfl⟩ := R6_mem hr
  have : n < Sn.length := by rw [D.sn6]; exact hn
  simp [snR, this]
theorem pc_len {S : Six} {Pc Sn} (D : DOk S Pc Sn) {r : Int} (hr : r ∈ R6) : (((pcR Pc r).1.length : Int) + (pcR Pc r).2.length) = S.sz r ∧ S.sz r ≤ 100 ∧ 0 ≤ S.sz r := by
  have e := congrArg Str.length (D.cat r hr)
  rw [Mine.Str.len_append, mkS_len] at e
  have := D.sz r hr
  have := D.sl r hr
  omega
theorem lenOf_ts {S : Six} {Pc Sn} (D : DOk S Pc Sn) : ∀ {R : List Int}, (∀ r ∈ R, r ∈ R6) → lenOf (R.map (pcR Pc)) = (R.map S.sz).sum
  | [], _ => rfl
  | r :: R, h => by
    have ih := lenOf_ts D (R := R) fun x hx => h x (List.mem_cons_of_mem _ hx)
    have := (pc_len D (h r (List.mem_cons_self ..))).1
    unfold lenOf at ih ⊢
    rw [List.map_cons, List.map_cons, List.sum_cons, List.map_cons, List.sum_cons, ih, this]
theorem sum_sz {S : Six} {Pc Sn} (D : DOk S Pc Sn) : ∀ {R : List Int}, (∀ r ∈ R, r ∈ R6) → 0 ≤ (R.map S.sz).sum ∧ (R.map S.sz).sum ≤ 100 * R.length
  | [], _ => ⟨Int.le_refl _, Int.le_refl _⟩
  | r :: R, h => by
    have ih := sum_sz D (R := R) fun x hx => h x (List.mem_cons_of_mem _ hx)
    have := (pc_len D (h r (List.mem_cons_self ..))).2
    rw [List.map_cons, List.sum_cons, List.length_cons]
    omega
theorem tok {S : Six} {Pc Sn} (D : DOk S Pc Sn) {R : List Int} (h : ∀ r ∈ R, r ∈ R6) (hl : R.length ≤ 6) : TOk S.st (R.map (pcR Pc)) where
  len := by rw [List.length_map]; omega
  parts := fun q hq => by
    obtain ⟨r, hr, rfl⟩ := List.mem_map.mp hq
    have := pc_len D (h r hr)
    omega
  all := by
    rw [lenOf_ts D h]
    have := sum_sz D h
    have := D.st
    omega
theorem kcut {S : Six} {K : List Int} {n : Int} (hs : K.Pairwise fun a b => S.sz a ≤ S.sz b) : Cut (fun i => match K[i]? with | some x => decide (S.sz n < S.sz x) | none => true) 0 (posK S K n) K.length := by
  obtain ⟨_, h2⟩ := cut_filter (fun r => decide (S.sz r ≤ S.sz n)) K (hs.imp fun {a b} h => by simp; omega)
  have hle : posK S K n ≤ K.length := List.length_filter_le _ _
  refine ⟨Nat.zero_le _, hle, fun i _ hm => ?_, fun i hm hi => ?_⟩
  · have hx : K[i]? = some (K[i]'(by omega)) := by simp
    have := (h2 i _ hx).mpr hm
    simp only [hx]
    simp at this ⊢
    omega
  · have hx : K[i]? = some K[i] := by simp
    have := (not_congr (h2 i _ hx)).mpr (Nat.not_lt.mpr hm)
    simp only [hx]
    simp at this ⊢
    omega
theorem kD_at {S : Six} {K : List Int} {i : Nat} {e : PyData} (h : (kD S K)[i]? = some e) : ∃ r, K[i]? = some r ∧ e = prI (S.sz r, r) := by
  rw [List.getElem?_map] at h
  cases hx : K[i]? with
  | none => rw [hx] at h; simp at h
  | some r => rw [hx] at h; simp at h; exact ⟨r, rfl, h.symm⟩
theorem seekK0 {S : Six} {K : List Int} {n : Int} (hs : K.Pairwise fun a b => S.sz a ≤ S.sz b) (hn : ∀ r ∈ K, r < n) : SeekR .none (kD S K) (prI (S.sz n, n)) (posK S K n) := by
  refine .inl ⟨rfl, fun i => match K[i]? with | some x => decide (S.sz n < S.sz x) | none => true, fun i e he => ?_, by rw [List.length_map]; exact kcut hs⟩
  obtain ⟨r, hr, rfl⟩ := kD_at he
  have hlt := hn r (List.mem_of_getElem? hr)
  have e : decide (S.sz n < S.sz r) = lexLt [(S.sz n, S.sz r), (n, r)] := by
    unfold lexLt
    by_cases h : S.sz n = S.sz r
    · rw [if_pos h]
      have h1 : n ≠ r := by omega
      simp [lexLt, h1]
      omega
    · rw [if_neg h]
  simp only [hr, e]
  exact LtD.tup2 _ _ _ _
theorem seekK1 {S : Six} {K : List Int} {n : Int} (hs : K.Pairwise fun a b => S.sz a ≤ S.sz b) : SeekR (.ref 182) (kD S K) (prI (S.sz n, n)) (posK S K n) := by
  refine .inr ⟨rfl, fun i => match K[i]? with | some x => decide (S.sz n < S.sz x) | none => true, .int (S.sz n), _, rfl, fun i e he => ?_, by rw [List.length_map]; exact kcut hs⟩
  obtain ⟨r, hr, rfl⟩ := kD_at he
  exact ⟨.int (S.sz r), _, rfl, by simp only [hr]; exact LtD.int _ _⟩
theorem flat_kD (S : Six) (K : List Int) : flatAll (kD S K) = true := flatAll_of fun d hd => by obtain ⟨m, _, rfl⟩ := List.mem_map.mp hd; rfl
noncomputable abbrev rankB : List Stmt := match lawB.getD 16 (.Pass ⟨0, 0, 0, 0⟩) with | .For _ _ b _ _ => b | _ => []
section
variable {w : World} {A : Around} {s : Shared} {E : Value → Shared → Prop} {Q : Flow → Shared → Prop}
variable {h0 : Heap} {L : Addr} {X : Addr → Prop} {hb : Heap} {pm : Value}
variable {S : Six} {Pc : List (Str × Str)} {Sn : List (List Nat)} {p ka : Addr} {R K : List Int} {n : Int}
noncomputable abbrev bsR (S : Six) (Pc : List (Str × Str)) (Sn : List (List Nat)) (p ka : Addr) (R : List Int) (n : Int) : List (Str × Ent) := ("rank", .d (.int n)) :: bsV S (pcsD Pc) (sntD Sn) p ka R
/- push, ranks, insort, odd -/
theorem turnA (D : DOk S Pc Sn) (hA : Room 6 A) (hn : n ∈ R6) (hR : ∀ r ∈ R, r ∈ R6) (hRl : R.length ≤ 5) (hKl : K.length ≤ 5) (hKn : ∀ r ∈ K, r < n) (hKs : K.Pairwise fun a b => S.sz a ≤ S.sz b)
    (SL : LS h0 L (lcl L) X [(ka, kD S K)] (some (p, S.st, tsD Pc R))) (g : LF h0 L (lcl L) X hb (bsR S Pc Sn p ka R n) [(ka, kD S K)] (some (p, S.st, tsD Pc R)) s.heap)
    (next : ∀ h' tk, LF h0 L (lcl L) X hb (("odd", .d (.list [])) :: bsR S Pc Sn p ka (R ++ [n]) n) [(ka, kD S (insAt K (posK S K n) n))] (some (p, S.st, tsD Pc (R ++ [n]))) h' → wpAny (model thePr w) A (execs (rankB.drop 4) (lenv pm L)) Q E { s with heap := h', toks := tk }) :
    wpAny (model thePr w) A (execs rankB (lenv pm L)) Q E s := by
  have h1000 : 1000 ≤ sizeLine := by decide
  obtain ⟨hn0, hn5⟩ := R6_lo hn
  refine st_push (a := (pcR Pc n).1) (b := (pcR Pc n).2) (f1 := false) (f2 := false) (hA.le (by decide)) SL g NV.r (by simp; omega) (EV.itemT (k := 0) mono_LF (by decide) (by decide) rfl (EV.item mono_LF hn0 (by omega) (pc_at D hn) EV.n EV.n (fun _ _ => rfl)) EV.int) (EV.itemT (k := 1) mono_LF (by decide) (by decide) rfl (EV.item mono_LF hn0 (by omega) (pc_at D hn) EV.n EV.n (fun _ _ => rfl)) EV.int) rfl rfl rfl rfl fun h1 tk1 g1 => ?_
  have eT : tsD Pc R ++ [.tuple [.str (pcR Pc n).1, .str (pcR Pc n).2]] = tsD Pc (R ++ [n]) := by simp
  rw [eT] at g1
  have S1 : LS h0 L (lcl L) X [(ka, kD S K)] (some (p, S.st, tsD Pc (R ++ [n]))) := SL.rePl
  refine st_asg (x := "ranks") (d := .list ((R ++ [n]).map .int)) (f := true) (s := { s with heap := h1, toks := tk1 }) S1 g1 rfl rfl (.inl ⟨rfl, rfl⟩) ?_ (.inl rfl) rfl fun h2 tk2 g2 => ?_
  · exact EV.cast (by rw [List.map_append]; rfl) (EV.addl mono_LF (flat_ints R) rfl (by simp; omega) (EV.n (d := .list (R.map .int))) (EV.list (f := false) (EVs.cons mono_LF (EV.n (d := .int n)) .nil) (show 1 ≤ sizeLine by decide)))
  replace g2 : LF h0 L (lcl L) X hb (bsR S Pc Sn p ka (R ++ [n]) n) [(ka, kD S K)] (some (p, S.st, tsD Pc (R ++ [n]))) h2 := g2.sub fun q hq => by
    simp only [List.mem_cons, List.not_mem_nil, or_false] at hq
    rcases hq with rfl | rfl | rfl | rfl | rfl | rfl | rfl | rfl | rfl | rfl | rfl | rfl <;> rfl
  have fin : ∀ h4 tk4, LF h0 L (lcl L) X hb (bsR S Pc Sn p ka (R ++ [n]) n) [(ka, kD S (insAt K (posK S K n) n))] (some (p, S.st, tsD Pc (R ++ [n]))) h4 → wpAny (model thePr w) A (execs (rankB.drop 3) (lenv pm L)) Q E { s with heap := h4, toks := tk4 } := fun h4 tk4 g4 =>
    st_asg (x := "odd") (d := .list []) (f := true) (s := { s with heap := h4, toks := tk4 }) (S1.reMs (ms' := [(ka, kD S (insAt K (posK S K n) n))]) rfl) g4 rfl rfl (.inl ⟨rfl, rfl⟩) (EV.list EVs.nil (by decide)) (.inl rfl) rfl next
  have hkd : (kD S K).length ≤ sizeLine := by rw [List.length_map]; omega
  have eK : insAt (kD S K) (posK S K n) (prI (S.sz n, n)) = kD S (insAt K (posK S K n) n) := (insAt_map _ _ _ _).symm
  have ins : ∀ (kv : Value) (kw : List (Str × Value)) (s4 : Shared) (v : Value) (as : List Addr), kw = [] ∧ kv = .none ∨ kw = [(("key" : Str), kv)] → SeekR kv (kD S K) (prI (S.sz n, n)) (posK S K n) → LF h0 L (lcl L) X hb (bsR S Pc Sn p ka (R ++ [n]) n) [(ka, kD S K)] (some (p, S.st, tsD Pc (R ++ [n]))) s4.heap → Keeps { s with heap := h2, toks := tk2 } s4 → Rds s4.heap v (prI (S.sz n, n)) as →
      wpAny (model thePr w) A (PySem.call (.ref 47) [.ref ka, v] kw) (fun u s5 => u = .none ∧ wpAny (model thePr w) A (execs (rankB.drop 3) (lenv pm L)) Q E s5) E s4 := fun kv kw s4 v as hkw sk g4 k4 r4 => by
    have := rds_flat r4 rfl
    subst this
    obtain ⟨it, m, e4, ra4, _⟩ := g4.muts _ (List.mem_singleton_self _)
    refine insr (hA.le (by decide)) (g4.base S1) hkw e4 ra4 r4 (flat_kD S K) rfl hkd sk fun h5 tk5 it5 m5 e5 r5 kb5 => ?_
    obtain ⟨h4, tk4, rfl, k4⟩ := k4
    exact ⟨rfl, fin h5 tk5 (g4.mut S1 (List.mem_singleton_self _) kb5 e5 (by rw [← eK]; exact r5) (flat_kD _ _) (fun q hq => .inl (by simpa using hq)) rfl)⟩
  have tup : ∀ {po p1 p2 p3 p4 : Pos} {kk : Nat}, EV w A (lenv pm L) (LF h0 L (lcl L) X hb (bsR S Pc Sn p ka (R ++ [n]) n) [(ka, kD S K)] (some (p, S.st, tsD Pc (R ++ [n])))) false (.Tuple [.Subscript (.Name "sizes" p1) (.Name "rank" p2) p3, .Name "rank" p4] kk po) (prI (S.sz n, n)) := fun {_ _ _ _ _ _} =>
    EV.tuple (.cons mono_LF (EV.item mono_LF hn0 (by omega) (Six.sz_at D.six hn) EV.n EV.n (fun _ _ => rfl)) (.cons mono_LF EV.n .nil)) (show 2 ≤ sizeLine by decide)
  have hK : ∀ h, LF h0 L (lcl L) X hb (bsR S Pc Sn p ka (R ++ [n]) n) [(ka, kD S K)] (some (p, S.st, tsD Pc (R ++ [n]))) h → FnAt h 47 "insort_right" (topSt 3) (.ref 39) (.ref 40) 46 := fun h g => (g.base S1).insr
  refine st_if (b := (n.fmod 2 == 0)) (s := { s with heap := h2, toks := tk2 }) g2 mono_LF (TV.eqi mono_LF (EV.mod mono_LF (by decide) (EV.n (d := .int n)) EV.int) EV.int) fun s3 g3 k3 => ?_
  cases (n.fmod 2 == 0) with
  | true =>
    rw [if_pos rfl]
    refine wpAny_execs_cons (wpAny_Expr (wp_callR mono_LF g3 (NV.g S1) (KPr.base hK) (AR.raw NV.r (AR.ev mono_LF tup .nil)) fun s4 vs k4 g4 r4 => ?_))
    obtain ⟨_, rfl, v4, _, as4, rfl, r4, rfl⟩ := r4
    exact wpAny_mono (ins .none [] s4 v4 as4 (.inl ⟨rfl, rfl⟩) (seekK0 hKs hKn) g4 (keeps_trans k3 k4) r4) (fun _ _ h => by obtain ⟨rfl, h⟩ := h; exact wpAny_execs_nil h) fun _ _ x => x
  | false =>
    rw [if_neg (by decide)]
    refine wpAny_execs_cons (wpAny_Expr (wp_callKR mono_LF g3 (NV.g S1) (KPr.base hK) (AR.raw NV.r (AR.ev mono_LF tup .nil)) (NV.g S1 (v := .ref 182)) fun s4 vs k4 g4 r4 => ?_))
    obtain ⟨_, rfl, v4, _, as4, rfl, r4, rfl⟩ := r4
    exact wpAny_mono (ins (.ref 182) _ s4 v4 as4 (.inr rfl) (seekK1 hKs) g4 (keeps_trans k3 k4) r4) (fun _ _ h => by obtain ⟨rfl, h⟩ := h; exact wpAny_execs_nil h) fun _ _ x => x
end
end Mine
set_option maxRecDepth 100000
set_option linter.all false
namespace Mine
open PySem PySem.Spec PySem.Calls PyProof.Rows PySem.W
theorem lay_pr {q : Str × Str} (h : PyData.strOk q.1 = true ∧ PyData.strOk q.2 = true) : (prD q).canLay0 = true ∧ (prD q).depth ≤ 10 := by
  refine ⟨?_, ?_⟩
  · show (PyData.strOk q.1 && (PyData.strOk q.2 && true)) = true
    rw [h.1, h.2]; rfl
  · show max 0 (max 0 0) + 1 ≤ 10
    decide
theorem shaped_ts {S : Six} {Pc Sn} (D : DOk S Pc Sn) {R : List Int} (h : ∀ r ∈ R, r ∈ R6) : SeqAt.shaped (.list (tsD Pc R)) = true := shaped_list fun d hd => by
  obtain ⟨q, hq, rfl⟩ := List.mem_map.mp hd
  obtain ⟨r, hr, rfl⟩ := List.mem_map.mp hq
  exact lay_pr (D.ok r (h r hr))
section
variable {w : World} {A : Around} {s : Shared} {E : Value → Shared → Prop} {Q : Flow → Shared → Prop}
variable {h0 : Heap} {L : Addr} {X : Addr → Prop} {hb : Heap} {pm : Value}
variable {S : Six} {Pc : List (Str × Str)} {Sn : List (List Nat)} {p ka : Addr} {R K : List Int} {n o : Int}
noncomputable abbrev outB : List Stmt := match rankB.getD 4 (.Pass ⟨0, 0, 0, 0⟩) with | .If _ b _ _ => b | _ => []
noncomputable abbrev bsO (S : Six) (Pc : List (Str × Str)) (Sn : List (List Nat)) (p ka : Addr) (R : List Int) (n o : Int) : List (Str × Ent) := ("taken", .d (.list ((tsD Pc R).drop (R.idxOf o)))) :: ("at", .d (.int ((R.idxOf o : Nat) : Int))) :: ("out", .d (.int o)) :: ("size", .d (.int (S.sz o))) :: ("odd", .d (.list [])) :: bsR S Pc Sn p ka R n
/- size, out, at, taken and its check -/
theorem turnB1 (D : DOk S Pc Sn) (hA : Room 6 A) (hR : ∀ r ∈ R, r ∈ R6) (hRs : R.Pairwise (· < ·)) (hRl : R.length ≤ 6) (hKl : K.length ≤ 6) (ho : o ∈ R)
    (SL : LS h0 L (lcl L) X [(ka, kD S (K ++ [o]))] (some (p, S.st, tsD Pc R))) (g : LF h0 L (lcl L) X hb (("odd", .d (.list [])) :: bsR S Pc Sn p ka R n) [(ka, kD S (K ++ [o]))] (some (p, S.st, tsD Pc R)) s.heap)
    (next : ∀ h' tk, LF h0 L (lcl L) X hb (bsO S Pc Sn p ka R n o) [(ka, kD S K)] (some (p, S.st, (tsD Pc R).take (R.idxOf o))) h' → wpAny (model thePr w) A (execs (outB.drop 4) (lenv pm L)) Q E { s with heap := h', toks := tk }) :
    wpAny (model thePr w) A (execs outB (lenv pm L)) Q E s := by
  have h1000 : 1000 ≤ sizeLine := by decide
  have hu : A.units + 64 < cLine := by have := hA.units; omega
  have hi : R.idxOf o < R.length := List.idxOf_lt_length_iff.mpr ho
  have eK : kD S (K ++ [o]) = kD S K ++ [prI (S.sz o, o)] := by simp
  have hts : (tsD Pc R).length = R.length := by simp
  refine st_popTwo (x := "size") (y := "out") (a := ka) (ds := kD S K) (q := (S.sz o, o)) (ms' := [(ka, kD S K)]) hA.handled SL g NV.r (by rw [← eK]; exact List.mem_singleton_self _) (by rw [List.length_map]; omega) (fun q hq => .inl (by simpa using hq)) rfl rfl rfl (.inr ⟨_, rfl, rfl, rfl⟩) (.inr ⟨_, rfl, rfl, rfl⟩) rfl rfl rfl rfl rfl rfl rfl fun h1 tk1 g1 => ?_
  have S1 : LS h0 L (lcl L) X [(ka, kD S K)] (some (p, S.st, tsD Pc R)) := SL.reMs rfl
  refine st_asg (x := "at") (d := .int ((R.idxOf o : Nat) : Int)) (f := true) (s := { s with heap := h1, toks := tk1 }) S1 g1 rfl rfl (.inl ⟨rfl, rfl⟩) ?_ (.inl rfl) rfl fun h2 tk2 g2 => ?_
  · refine EV.call mono_LF (NV.g S1) (KPr.base fun h g => (g.base S1).bisl) (.cons mono_LF (EV.n (d := .list (R.map .int))) (.cons mono_LF (EV.n (d := .int o)) .nil)) fun s E vs as g r => ?_
    obtain ⟨u, v, cs, ds, rfl, r1, r2⟩ := rdsAll_two r
    have cut := bisl_cut (hRs.imp fun {a b} h => Int.le_of_lt h) ho (lo := 0) (Nat.zero_le _)
    rw [Nat.zero_max] at cut
    refine bisl2 (d := .int o) (ds := R.map .int) (kv := .none) (kw := []) (r := R.idxOf o) (t := fun i => match R[i]? with | some x => !decide (x < o) | none => true) (hA.le (by decide)) (g.base S1) (.inl ⟨rfl, rfl⟩) r1 r2 (.inl ⟨rfl, fun i e he _ => ?_⟩) (by rw [List.length_map]; omega) (by rw [List.length_map]; exact cut) fun h' tk u k => ⟨⟨[], .int _ _, fun _ h => nomatch h⟩, ⟨h', tk, rfl, k⟩⟩
    rw [List.getElem?_map] at he
    cases hx : R[i]? with
    | none => rw [hx] at he; simp at he
    | some x =>
      rw [hx] at he
      simp at he
      subst he
      simp only [Bool.not_not]
      exact LtD.int _ _
  refine st_popfrom (y := "taken") (k := R.idxOf o) (f := false) (s := { s with heap := h2, toks := tk2 }) (hA.le (by decide)) S1 g2 NV.r (by rw [hts]; omega) (by rw [hts]; omega) rfl rfl (.inl ⟨rfl, rfl⟩) EV.n rfl rfl rfl fun h3 tk3 g3 => ?_
  have S3 : LS h0 L (lcl L) X [(ka, kD S K)] (some (p, S.st, (tsD Pc R).take (R.idxOf o))) := S1.rePl
  refine st_if (b := false) (s := { s with heap := h3, toks := tk3 }) g3 mono_LF ?_ fun s4 g4 k4 => ?_
  · have hRd : ∀ r ∈ R.drop (R.idxOf o), r ∈ R6 := fun r hr => hR r (List.mem_of_mem_drop hr)
    have hsh := shaped_ts D hRd
    have ed : (tsD Pc R).drop (R.idxOf o) = tsD Pc (R.drop (R.idxOf o)) := by simp [List.map_drop]
    have e : (!PyData.eqv (.list (tsD Pc (R.drop (R.idxOf o)))) (.list (tsD Pc (R.drop (R.idxOf o))))) = false := by
      rw [eqv_self (SeqAt.canLay_of_shaped hsh)]; rfl
    refine TV.cast e (TV.ned (f := false) (g := true) mono_LF hu hsh hsh (EV.cast (congrArg PyData.list ed) EV.n) ?_ rfl)
    refine EV.cast (d := .list ((R.drop (R.idxOf o)).map fun r => prD (pcR Pc r))) (by show PyData.list _ = PyData.list (((R.drop (R.idxOf o)).map (pcR Pc)).map prD); rw [List.map_map]; rfl) (ev_ints (cl' := [("pieces", L+8)]) (fun r => prD (pcR Pc r)) hA (IT.list hA.handled (EV.cast (congrArg PyData.list (by rw [pickD_from _ _ (Int.natCast_nonneg _), Int.toNat_natCast, ← List.map_drop])) (EV.slice mono_LF (EV.n (d := .list (R.map .int))) (OE.some (EV.n (d := .int ((R.idxOf o : Nat) : Int)))) OE.none OE.none (by decide) (flat_ints _) (by rw [List.length_map]; omega)))) (by rw [List.length_drop]; omega) rfl (by decide) rfl (by decide) (fun _ => rfl) (fun C r hr => ⟨false, ?_⟩) (fun _ _ => rfl) (fun _ => rfl))
    obtain ⟨hr0, hr5⟩ := R6_lo (hRd r hr)
    exact EV.item mono_LC hr0 (by omega) (pc_at D (hRd r hr)) (EV.nc (d := pcsD Pc)) (EV.cx (d := .int r)) (fun _ _ => rfl)
  · obtain ⟨h4, tk4, rfl, k4⟩ := k4
    exact wpAny_execs_nil (next h4 tk4 g4)
end
end Mine
set_option maxRecDepth 100000
set_option linter.all false
namespace Mine
open PySem PySem.Spec PySem.Calls PyProof.Rows PySem.W
theorem filter_out {o : Int} : ∀ {R : List Int}, R.Pairwise (· < ·) → o ∈ R → R.filter (fun r => r != o) = R.take (R.idxOf o) ++ R.drop (R.idxOf o + 1)
  | [], _, h => nomatch h
  | a :: R, h, ho => by
    obtain ⟨h1, h2⟩ := List.pairwise_cons.mp h
    by_cases e : a = o
    · subst e
      have hf : (a :: R).filter (fun r => r != a) = R := by
        rw [List.filter_cons_of_neg (by simp)]
        exact List.filter_eq_self.mpr fun x hx => by have := h1 x hx; simp; omega
      rw [hf]; simp
    · have ho' : o ∈ R := by
        rcases List.mem_cons.mp ho with h | h
        · exact absurd h.symm e
        · exact h
      have hi : (a :: R).idxOf o = R.idxOf o + 1 := by
        rw [List.idxOf_cons]
        have : (a == o) = false := by simpa using e
        rw [this]; rfl
      rw [hi, List.filter_cons_of_pos (by simpa using e), filter_out h2 ho']
      simp
section
variable {w : World} {A : Around} {env : Env} {s : Shared} {E : Value → Shared → Prop}
variable {h0 : Heap} {L : Addr} {cl : List (Str × Addr)} {X : Addr → Prop} {hb hb' : Heap} {bs : List (Str × Ent)} {ms : List (Addr × List PyData)} {pl : Pl}
theorem LF.withKx {h : Heap} (g : LF h0 L cl X hb' bs ms pl h) (k : KX X hb h) : LF h0 L cl X hb bs ms pl h := { kp := g.kp, old := g.old, tabs := g.tabs, kx := k, fr := g.fr, cells := g.cells, muts := g.muts, pile := g.pile }
theorem wp_asgTwo {x y : Str} {px py pos : Pos} {kk : Nat} {t : Addr} {nt : Nat} {u v : Value} {a b : PyData} {Q : Unit → Shared → Prop} (hh : A.handled = none) (S : LS h0 L cl X ms pl) (g : LF h0 L cl X hb bs ms pl s.heap) (ht : s.heap.get? t = some (tupO #[u, v] nt)) (ru : Rds s.heap u a []) (rv : Rds s.heap v b [])
    (hL : env.locals = L) (hk : env.scope.kind = .function) (hx : NK env cl x) (hy : NK env cl y)
    (he2 : (assignEach [.Name x px, .Name y py] env).map (·.2) = [assign (.Name x px) env, assign (.Name y py) env]) (he3 : (assignEach [.Name x px, .Name y py] env).length = 2) (he4 : (assignEach [.Name x px, .Name y py] env).findIdx? (·.1) = none)
    (next : ∀ h' tk, LF h0 L cl X hb ((y, .d b) :: (x, .d a) :: bs) ms pl h' → Q () { s with heap := h', toks := tk }) :
    wpAny (model thePr w) A (assign (.Tuple [.Name x px, .Name y py] kk pos) env (.ref t)) Q E s := by
  refine wpAny_assign_Tuple hh ⟨_, ht, rfl, _, rfl⟩ he3 he4 fun h₂ he₂ => ?_
  rw [he2]
  have kf : Kf s.heap h₂ := fun c o e => he₂ c o (Nat.ne_of_lt (Heap.lt_size e)) e
  refine assignInOrder_cons (wpAny_assign_Name (wp_storeL S (g.kf kf) (e := .d a) ⟨[], rds_kp (.of_keep kf) ru, fun _ h => nomatch h⟩ hL hk hx fun h₃ tk₃ g₃ up => ?_))
  refine assignInOrder_cons (wpAny_assign_Name (wp_storeL S g₃ (e := .d b) ⟨[], up _ _ _ (rds_kp (.of_keep kf) rv), fun _ h => nomatch h⟩ hL hk hy fun h₄ tk₄ g₄ _ => ?_))
  exact assignInOrder_nil (next h₄ _ g₄)
end
section
variable {w : World} {A : Around} {s : Shared} {E : Value → Shared → Prop} {Q : Flow → Shared → Prop}
variable {h0 : Heap} {L : Addr} {hb : Heap} {pm : Value}
variable {S : Six} {Pc : List (Str × Str)} {Sn : List (List Nat)} {p ka : Addr} {R K : List Int} {n o : Int}
/- the parts behind go back -/
theorem turnB2 (D : DOk S Pc Sn) (hA : Room 6 A) (hRl : R.length ≤ 6) (ho : o ∈ R) (hbare : AllBare s.gens)
    (SL : LS h0 L (lcl L) (XS L (lcl L) [ka, p]) [(ka, kD S K)] (some (p, S.st, (tsD Pc R).take (R.idxOf o)))) (g : LF h0 L (lcl L) (XS L (lcl L) [ka, p]) hb (bsO S Pc Sn p ka R n o) [(ka, kD S K)] (some (p, S.st, (tsD Pc R).take (R.idxOf o))) s.heap)
    (next : ∀ s', LF h0 L (lcl L) (XS L (lcl L) [ka, p]) hb (bsO S Pc Sn p ka R n o) [(ka, kD S K)] (some (p, S.st, tsD Pc (R.take (R.idxOf o) ++ R.drop (R.idxOf o + 1)))) s'.heap → s'.os = s.os → AllBare s'.gens → wpAny (model thePr w) A (execs (outB.drop 5) (lenv pm L)) Q E s') :
    wpAny (model thePr w) A (execs (outB.drop 4) (lenv pm L)) Q E s := by
  have h1000 : 1000 ≤ sizeLine := by decide
  have hi : R.idxOf o < R.length := List.idxOf_lt_length_iff.mpr ho
  generalize hI : R.idxOf o = i at SL g next hi
  have hxs : ((tsD Pc R).drop i).drop 1 = tsD Pc (R.drop (i + 1)) := by simp [List.map_drop]
  have htl : (tsD Pc R).take i = tsD Pc (R.take i) := by simp [List.map_take]
  have hlen : (tsD Pc (R.drop (i + 1))).length = R.length - (i + 1) := by simp
  have g0 := g.reX (X' := XS L (lcl L) [ka, p])
  have hX := g0.hX (fun a ha => by
    simp only [List.mem_cons, List.not_mem_nil, or_false] at ha
    rcases ha with rfl | rfl
    · exact g0.mutObj (by simp)
    · exact g0.pileObj)
  refine st_for (xs := tsD Pc (R.drop (i + 1))) (G := LF h0 L (lcl L) (XS L (lcl L) [ka, p]) hb (bsO S Pc Sn p ka R n o) [(ka, kD S K)] (some (p, S.st, (tsD Pc R).take i)))
    (fun j s' => ∃ hb', LF h0 L (lcl L) (XS L (lcl L) [ka, p]) hb' (bsO S Pc Sn p ka R n o) [(ka, kD S K)] (some (p, S.st, tsD Pc (R.take i) ++ (tsD Pc (R.drop (i + 1))).take j)) s'.heap ∧ KX (XS L (lcl L) [ka, p]) hb s'.heap ∧ s'.os = s.os ∧ AllBare s'.gens)
    (XS L (lcl L) [ka, p]) g (ITN.list hA.handled (flat_prs _) (EV.cast (congrArg PyData.list (by rw [hI, pickD_from _ _ (by decide)]; exact hxs)) (EV.slice mono_LF (EV.n (d := .list ((tsD Pc R).drop (R.idxOf o)))) (OE.some EV.int) OE.none OE.none (by decide) ?_ ?_))) (fun d hd => flatAll_iff.mp (flat_prs _) d hd) hX ?_ ?_ ?_ ?_ (fun _ => rfl)
  · exact flatAll_of fun d hd => flatAll_iff.mp (flat_prs _) d (List.mem_of_mem_drop hd)
  · rw [List.length_drop]
    have : (tsD Pc R).length = R.length := by simp
    omega
  · rintro s' ⟨h', tk, rfl, k⟩
    refine ⟨hb, ?_, g.kx.trans (.of_kf k), rfl, hbare⟩
    have := g.kf k
    rw [htl] at this
    simpa using this
  · rintro j s' h' tk ⟨hb', g', kx, ho, hba⟩ kp hold
    exact ⟨h', g.step (hb' := hb') g' kp hold, fun b o hx e => hold b o (by rw [g.kx b o hx e]; nofun) (kx b o hx e), ho, hba⟩
  · rintro j d s1 v E' hj ⟨hb', g', kx, ho, hba⟩ r
    have hjl : j < R.length - (i + 1) := by rw [← hlen]; exact (List.getElem?_eq_some_iff.mp hj).1
    obtain ⟨q, hq, rfl⟩ : ∃ q : Str × Str, q ∈ (R.drop (i + 1)).map (pcR Pc) ∧ d = prD q := by
      obtain ⟨q, hq, e⟩ := List.mem_map.mp (List.mem_of_getElem? hj)
      exact ⟨q, hq, e.symm⟩
    refine rdsT2 r fun t nt u v cs ds ht r1 r2 => ?_
    have e1 := rds_flat r1 rfl
    have e2 := rds_flat r2 rfl
    subst e1 e2
    have S1 : LS h0 L (lcl L) (XS L (lcl L) [ka, p]) [(ka, kD S K)] (some (p, S.st, tsD Pc (R.take i) ++ (tsD Pc (R.drop (i + 1))).take j)) := SL.rePl
    refine wp_asgTwo (x := "blanks") (y := "rest") hA.handled S1 (g'.reX (X' := XS L (lcl L) [ka, p])) ht r1 r2 rfl rfl (.inl ⟨rfl, rfl⟩) (.inl ⟨rfl, rfl⟩) rfl rfl rfl fun h2 tk2 g2 => ?_
    refine st_push (a := q.1) (b := q.2) (f1 := false) (f2 := false) (s := { s1 with heap := h2, toks := tk2 }) (hA.le (by decide)) S1 g2 NV.r (by simp; omega) EV.n EV.n rfl rfl rfl rfl fun h3 tk3 g3 => ?_
    refine wpAny_execs_nil ⟨⟨s1.heap, ?_, kx.trans g3.kx, ho, hba⟩, g3.kx⟩
    have ee : tsD Pc (R.take i) ++ (tsD Pc (R.drop (i + 1))).take j ++ [.tuple [.str q.1, .str q.2]] = tsD Pc (R.take i) ++ (tsD Pc (R.drop (i + 1))).take (j + 1) := by
      rw [List.append_assoc, List.take_succ, hj]; rfl
    rw [ee] at g3
    exact g3.sub fun q hq => by
      simp only [List.mem_cons, List.not_mem_nil, or_false] at hq
      rcases hq with rfl | rfl | rfl | rfl | rfl | rfl | rfl | rfl | rfl | rfl | rfl | rfl | rfl | rfl | rfl | rfl | rfl <;> rfl
  · rintro s' ⟨hb', g', kx, ho, hba⟩
    have ee : tsD Pc (R.take i) ++ (tsD Pc (R.drop (i + 1))).take (tsD Pc (R.drop (i + 1))).length = tsD Pc (R.take i ++ R.drop (i + 1)) := by
      rw [List.take_length]; simp
    rw [ee] at g'
    exact next s' (g'.withKx kx) ho hba
end
end Mine
set_option maxRecDepth 100000
set_option linter.all false
namespace Mine
open PySem PySem.Spec PySem.Calls PyProof.Rows PySem.W
section
variable {w : World} {A : Around} {s : Shared} {E : Value → Shared → Prop} {Q : Flow → Shared → Prop}
variable {h0 : Heap} {L : Addr} {X : Addr → Prop} {hb : Heap} {pm : Value}
variable {S : Six} {Pc : List (Str × Str)} {Sn : List (List Nat)} {p ka : Addr} {R K : List Int} {n o : Int}
noncomputable def oddB (S : Six) (o r : Int) : Bool := decide (S.sz o < S.sz r) || (S.sz r == S.sz o && decide (o < r))
/- odd and ranks -/
theorem turnB3 {ms : List (Addr × List PyData)} {pl : Pl} (D : DOk S Pc Sn) (hA : Room 6 A) (hR : ∀ r ∈ R, r ∈ R6) (hRl : R.length ≤ 6) (hmax : ∀ r ∈ R, oddB S o r = false)
    (SL : LS h0 L (lcl L) X ms pl) (g : LF h0 L (lcl L) X hb (bsO S Pc Sn p ka R n o) ms pl s.heap)
    (next : ∀ h' tk, LF h0 L (lcl L) X hb (("odd", .d (.list [])) :: bsR S Pc Sn p ka (R.filter fun r => r != o) n) ms pl h' → wpAny (model thePr w) A (execs (outB.drop 7) (lenv pm L)) Q E { s with heap := h', toks := tk }) :
    wpAny (model thePr w) A (execs (outB.drop 5) (lenv pm L)) Q E s := by
  have h1000 : 1000 ≤ sizeLine := by decide
  refine st_comp (x := "odd") (xs := R.map .int) (cl' := [("sizes", L+7), ("size", L+13), ("out", L+14)]) (ls := fun d => [("r", d)]) (p := intFn (oddB S o) false) (f := fun d => d) SL g rfl rfl (.inl ⟨rfl, rfl⟩) rfl (IT.list hA.handled (EV.n (d := .list (R.map .int)))) rfl (by decide) rfl (by decide) (fun C d hd => Asg.name rfl rfl) ?_ ?_ ?_ ?_ (fun _ => rfl) fun h1 tk1 g1 => ?_
  · intro C d hd
    obtain ⟨r, hr, rfl⟩ := List.mem_map.mp hd
    obtain ⟨hr0, hr5⟩ := R6_lo (hR r hr)
    exact TVs.one (TV.or mono_LC (TV.gt mono_LC (EV.item mono_LC hr0 (by omega) (Six.sz_at D.six (hR r hr)) (EV.nc (d := .list (S.size.map .int))) (EV.cx (d := .int r)) (fun _ _ => rfl)) (EV.nc (d := .int (S.sz o)))) fun _ => TV.and mono_LC (TV.eqi mono_LC (EV.item mono_LC hr0 (by omega) (Six.sz_at D.six (hR r hr)) (EV.nc (d := .list (S.size.map .int))) (EV.cx (d := .int r)) (fun _ _ => rfl)) (EV.nc (d := .int (S.sz o)))) fun _ => TV.gt mono_LC (EV.cx (d := .int r)) (EV.nc (d := .int o)))
  · intro C d hd _
    exact ⟨false, EV.cx⟩
  · intro d hd _
    obtain ⟨r, _, rfl⟩ := List.mem_map.mp hd
    rfl
  · rw [List.length_map]; omega
  rw [filter_intFn, List.filter_eq_nil_iff.mpr fun r hr => by rw [hmax r hr]; decide] at g1
  refine st_comp (x := "ranks") (xs := R.map .int) (cl' := [("out", L+14)]) (ls := fun d => [("r", d)]) (p := intFn (fun r => r != o) false) (f := fun d => d) (s := { s with heap := h1, toks := tk1 }) SL g1 rfl rfl (.inl ⟨rfl, rfl⟩) rfl (IT.list hA.handled (EV.n (d := .list (R.map .int)))) rfl (by decide) rfl (by decide) (fun C d hd => Asg.name rfl rfl) ?_ ?_ ?_ ?_ (fun _ => rfl) fun h2 tk2 g2 => ?_
  · intro C d hd
    obtain ⟨r, hr, rfl⟩ := List.mem_map.mp hd
    exact TVs.one (TV.nei mono_LC (EV.cx (d := .int r)) (EV.nc (d := .int o)))
  · intro C d hd _
    exact ⟨false, EV.cx⟩
  · intro d hd _
    obtain ⟨r, _, rfl⟩ := List.mem_map.mp hd
    rfl
  · rw [List.length_map]; omega
  rw [filter_intFn] at g2
  exact @next h2 tk2 (g2.sub fun q hq => by
    simp only [List.mem_cons, List.not_mem_nil, or_false] at hq
    rcases hq with rfl | rfl | rfl | rfl | rfl | rfl | rfl | rfl | rfl | rfl | rfl | rfl | rfl <;> rfl)
end
section
variable {w : World} {A : Around} {s : Shared} {E : Value → Shared → Prop} {Q : Flow → Shared → Prop}
variable {h0 : Heap} {L : Addr} {hb : Heap} {pm : Value}
variable {S : Six} {Pc : List (Str × Str)} {Sn : List (List Nat)} {p ka : Addr} {R K : List Int} {n o : Int}
/- the way through a late mail -/
theorem turnB (D : DOk S Pc Sn) (hA : Room 6 A) (hR : ∀ r ∈ R, r ∈ R6) (hRs : R.Pairwise (· < ·)) (hRl : R.length ≤ 6) (hKl : K.length ≤ 6) (ho : o ∈ R) (hmax : ∀ r ∈ R, oddB S o r = false) (hbare : AllBare s.gens)
    (SL : LS h0 L (lcl L) (XS L (lcl L) [ka, p]) [(ka, kD S (K ++ [o]))] (some (p, S.st, tsD Pc R))) (g : LF h0 L (lcl L) (XS L (lcl L) [ka, p]) hb (("odd", .d (.list [])) :: bsR S Pc Sn p ka R n) [(ka, kD S (K ++ [o]))] (some (p, S.st, tsD Pc R)) s.heap)
    (next : ∀ s', LF h0 L (lcl L) (XS L (lcl L) [ka, p]) hb (("odd", .d (.list [])) :: bsR S Pc Sn p ka (R.filter fun r => r != o) n) [(ka, kD S K)] (some (p, S.st, tsD Pc (R.filter fun r => r != o))) s'.heap → s'.os = s.os → AllBare s'.gens → wpAny (model thePr w) A (execs (outB.drop 7) (lenv pm L)) Q E s') :
    wpAny (model thePr w) A (execs outB (lenv pm L)) Q E s := by
  have S2 : LS h0 L (lcl L) (XS L (lcl L) [ka, p]) [(ka, kD S K)] (some (p, S.st, tsD Pc R)) := SL.reMs rfl
  refine turnB1 D hA hR hRs hRl hKl ho SL g fun h1 tk1 g1 => ?_
  refine turnB2 (s := { s with heap := h1, toks := tk1 }) D hA hRl ho hbare S2.rePl g1 fun s' g2 ho' hba => ?_
  rw [← filter_out hRs ho] at g2
  refine turnB3 (s := s') D hA hR hRl hmax (S2.rePl (ps' := tsD Pc (R.filter fun r => r != o))) g2 fun h3 tk3 g3 => ?_
  exact @next { s' with heap := h3, toks := tk3 } g3 ho' hba
end
end Mine
set_option maxRecDepth 100000
set_option linter.all false
namespace Mine
open PySem PySem.Spec PySem.Calls PyProof.Rows PySem.W
noncomputable def late (S : Six) (R : List Int) (n : Int) : Bool := decide (S.du n < S.st + (R.map S.sz).sum)
noncomputable def pairI (S : Six) (k : Nat) : Int × Int := (-((amongD k).length : Int), endsD S k)
/- what the law takes the min of, behind rank n -/
noncomputable def candD (S : Six) (n : Int) : List (Int × Int) := ((List.range (2 ^ (n + 1).toNat)).filter fun m => (ableL S 64).getD m false).map (pairI S)
section
variable {w : World} {A : Around} {s : Shared} {E : Value → Shared → Prop} {Q : Flow → Shared → Prop}
variable {h0 : Heap} {L : Addr} {X : Addr → Prop} {hb : Heap} {pm : Value} {pl : Pl} {ms : List (Addr × List PyData)} {bs : List (Str × Ent)}
variable {S : Six} {Pc : List (Str × Str)} {Sn : List (List Nat)} {p ka : Addr} {R K : List Int} {n o : Int}
theorem opNes {x' y' : Str} (s : Shared) (E : Value → Shared → Prop) (x y : Value) (as bs : List Addr) (rx : Rds s.heap x (.str x') as) (ry : Rds s.heap y (.str y') bs) :
    wpAny (model thePr w) A (compareOp .NotEq x y) (fun v s' => v = .bool (x' != y') ∧ Keeps s s') E s := rdsS rx fun _ => rdsS ry fun _ => PyProof.Rows.ne_str ⟨rfl, keeps_refl _⟩
theorem filter_mask (q : Nat → Bool) (f : Nat → PyData) (N : Nat) : ((((List.range N).map fun i : Nat => PyData.int (i : Int)).filter (intFn (fun m => q m.toNat) false)).map (intFn (fun m => f m.toNat) .none)) = ((List.range N).filter q).map f := by
  rw [List.filter_map, List.map_map]
  rfl
/- min([costs[mask] for mask in range(2 ** (rank + 1)) if able[mask]]) -/
theorem ev_min (hA : Room 6 A) (hn : n ∈ R6) (hne : candD S n ≠ []) (SL : LS h0 L (lcl L) X ms pl)
    (h1 : bs.lookup ("costs" : Str) = some (.d (.list (costL S 64)))) (h2 : bs.lookup ("able" : Str) = some (.d (.list ((ableL S 64).map .bool)))) (h3 : bs.lookup ("rank" : Str) = some (.d (.int n)))
    {e : Expr} (he : e = (match rankB.getD 5 (.Pass ⟨0, 0, 0, 0⟩) with | .If (.Compare _ _ (e :: _) _) _ _ _ => e | _ => .Constant .none 0 ⟨0, 0, 0, 0⟩)) :
    EV w A (lenv pm L) (LF h0 L (lcl L) X hb bs ms pl) true e (prI (minI (candD S n))) := by
  subst he
  have h1000 : 1000 ≤ sizeLine := by decide
  have hu : A.units + 64 < cLine := by have := hA.units; omega
  obtain ⟨hn0, hn5⟩ := R6_lo hn
  have hN : 2 ^ (n + 1).toNat ≤ 64 := by
    have h6 : (n + 1).toNat ≤ 6 := by omega
    exact Nat.le_trans (Nat.pow_le_pow_right (by decide) h6) (by decide)
  have hcl : (candD S n).map prI = ((List.range (2 ^ (n + 1).toNat)).filter fun m => (ableL S 64).getD m false).map (costD S) := by
    unfold candD
    rw [List.map_map]; rfl
  refine EV.minP mono_LF hA.handled hu (NV.b SL) (f := true) (EV.cast (congrArg PyData.list ((filter_mask _ (costD S) (2 ^ (n + 1).toNat)).trans hcl.symm)) ?_) hne
  have hpw : ((2 : Int) ^ (n + 1).toNat) = ((2 ^ (n + 1).toNat : Nat) : Int) := by simp
  have mem : ∀ d, d ∈ (List.range (2 ^ (n + 1).toNat)).map (fun i : Nat => PyData.int (i : Int)) → ∃ m : Nat, m < 64 ∧ d = .int m := fun d hd => by
    obtain ⟨m, hm, rfl⟩ := List.mem_map.mp hd
    exact ⟨m, Nat.lt_of_lt_of_le (List.mem_range.mp hm) hN, rfl⟩
  have hal := ableL_len S 64
  have hco : ∀ m : Nat, m < 64 → (costL S 64)[((m : Nat) : Int).toNat]? = some (costD S ((m : Nat) : Int).toNat) := fun m hm => by simp [costL, hm]
  generalize costL S 64 = co at h1 hco
  generalize ableL S 64 = al at h2 hal ⊢
  refine EV.comp (cl := [("costs", L+10), ("able", L+9)]) mono_LF (IT.range1 mono_LF hA.handled (NV.b SL) (EV.cast (congrArg PyData.int hpw) (EV.pow mono_LF (by omega) ?_ EV.int (EV.add mono_LF (EV.n h3) EV.int))) (by omega)) rfl (by decide) rfl (by decide) (fun d => [("mask", d)]) (fun C d hd => Asg.name rfl rfl) (intFn (fun m => al.getD m.toNat false) false) (intFn (fun m => costD S m.toNat) .none) ?_ ?_ ?_ ?_
  · have : (Builtin.Int.intBits 2 : Int) = 2 := by decide
    rw [this]; omega
  · intro C d hd
    obtain ⟨m, hm, rfl⟩ := mem d hd
    have b0 : (0 : Int) ≤ (m : Int) := Int.natCast_nonneg m
    have b1 : (m : Int) < 2 ^ 63 := by omega
    have hat : (al.map PyData.bool)[((m : Nat) : Int).toNat]? = some (.bool (al.getD ((m : Nat) : Int).toNat false)) := by
      have : m < al.length := by rw [hal]; exact hm
      simp [this]
    exact TVs.one (TV.ofEV (EV.item mono_LC b0 b1 hat (EV.nc h2) (EV.cx (d := .int m)) (fun _ _ => rfl)))
  · intro C d hd _
    obtain ⟨m, hm, rfl⟩ := mem d hd
    have b0 : (0 : Int) ≤ (m : Int) := Int.natCast_nonneg m
    have b1 : (m : Int) < 2 ^ 63 := by omega
    have hat := hco m hm
    exact ⟨false, EV.item mono_LC b0 b1 hat (EV.nc h1) (EV.cx (d := .int m)) (fun _ _ => rfl)⟩
  · intro d hd _
    obtain ⟨m, hm, rfl⟩ := mem d hd
    rfl
  · rw [List.length_map, List.length_range]; omega
theorem texts_eq (D : DOk S Pc Sn) : ∀ {R : List Int}, (∀ r ∈ R, r ∈ R6) → texts (R.map (pcR Pc)) = R.map fun r => mkS (snR Sn r)
  | [], _ => rfl
  | r :: R, h => by
    have ih := texts_eq D (R := R) fun x hx => h x (List.mem_cons_of_mem _ hx)
    unfold texts at ih ⊢
    rw [List.map_cons, List.map_cons, List.map_cons, ih, D.cat r (h r (List.mem_cons_self ..))]
theorem sum_sn (D : DOk S Pc Sn) : ∀ {R : List Int}, (∀ r ∈ R, r ∈ R6) → ((R.map fun r => mkS (snR Sn r)).map (·.length)).sum ≤ 100 * R.length
  | [], _ => Nat.le_refl _
  | r :: R, h => by
    have ih := sum_sn D (R := R) fun x hx => h x (List.mem_cons_of_mem _ hx)
    have := D.sl r (h r (List.mem_cons_self ..))
    rw [List.map_cons, List.map_cons, List.sum_cons, List.length_cons, mkS_len]
    omega
/- ''.join([sents[r] for r in e]) -/
theorem ev_joinR (D : DOk S Pc Sn) (hA : Room 6 A) {it : Expr} {p1 p2 p3 p4 p5 p6 p7 p8 : Pos} {k1 : Nat} {plain : Sem Bool} (hR : ∀ r ∈ R, r ∈ R6) (hRl : R.length ≤ 6) (hit : IT w A (lenv pm L) (LF h0 L (lcl L) X hb bs ms pl) it (R.map .int)) (h4 : bs.lookup ("sents" : Str) = some (.d (sntD Sn)))
    (hfs : ∀ y, foldedSetIterable it (lenv pm L) y = pure y)
    (he : eval (.Call (.Attribute (.Constant (.str "") k1 p1) "join" p2) [.ListComp (.Subscript (.Name "sents" p3) (.Name "r" p4) p5) [⟨.Name "r" p6, it, [], 0⟩] ⟨.function, [(".0", .local), ("r", .local), ("sents", .free)], false, false, []⟩ p7] [] p8) (lenv pm L) = (do
      let ov ← eval (.Constant (.str "") k1 p1) (lenv pm L)
      standAt p2.atName
      let (f, first) ← holding [ov] (getMethod ov "join" plain)
      callWith p8 f first (backTo p8 (starEach [.ListComp (.Subscript (.Name "sents" p3) (.Name "r" p4) p5) [⟨.Name "r" p6, it, [], 0⟩] ⟨.function, [(".0", .local), ("r", .local), ("sents", .free)], false, false, []⟩ p7] (lenv pm L))) [])) :
    EV w A (lenv pm L) (LF h0 L (lcl L) X hb bs ms pl) true (.Call (.Attribute (.Constant (.str "") k1 p1) "join" p2) [.ListComp (.Subscript (.Name "sents" p3) (.Name "r" p4) p5) [⟨.Name "r" p6, it, [], 0⟩] ⟨.function, [(".0", .local), ("r", .local), ("sents", .free)], false, false, []⟩ p7] [] p8) (.str (Txt.join "" (R.map fun r => mkS (snR Sn r)))) := by
  refine EV.join (x := "") (ys := R.map fun r => mkS (snR Sn r)) (f := true) (b := true) mono_LF EV.str (EV.cast (congrArg PyData.list (by rw [List.map_map]; rfl)) (ev_ints (cl' := [("sents", L+6)]) (fun r => strD (snR Sn r)) hA hit (by omega) rfl (by decide) rfl (by decide) (fun _ => rfl) (fun C r hr => ⟨false, ?_⟩) (fun _ _ => rfl) hfs)) ?_ he
  · obtain ⟨hr0, hr5⟩ := R6_lo (hR r hr)
    exact EV.item mono_LC hr0 (by omega) (sn_at D (hR r hr)) (EV.nc h4) (EV.cx (d := .int r)) (fun _ _ => rfl)
  · have := sum_sn D hR
    have e : ("" : Str).length = 0 := by decide
    rw [e]
    omega
end
end Mine
set_option maxRecDepth 100000
set_option linter.all false
namespace Mine
open PySem PySem.Spec PySem.Calls PyProof.Rows PySem.W
section
variable {w : World} {A : Around} {s : Shared} {E : Value → Shared → Prop} {Q : Flow → Shared → Prop}
variable {h0 : Heap} {L : Addr} {hb : Heap} {pm : Value}
variable {S : Six} {Pc : List (Str × Str)} {Sn : List (List Nat)} {p ka : Addr} {R K : List Int} {n o : Int}
/- the two checks at a turn's end -/
theorem turnC2 (D : DOk S Pc Sn) (hA : Room 6 A) (hn : n ∈ R6) (hR : ∀ r ∈ R, r ∈ R6) (hRl : R.length ≤ 6) (hne : candD S n ≠ []) (hmin : minI (candD S n) = (-(R.length : Int), S.st + (R.map S.sz).sum)) (hbare : AllBare s.gens)
    (SL : LS h0 L (lcl L) (XS L (lcl L) [ka, p]) [(ka, kD S K)] (some (p, S.st, tsD Pc R))) (g : LF h0 L (lcl L) (XS L (lcl L) [ka, p]) hb (("odd", .d (.list [])) :: bsR S Pc Sn p ka R n) [(ka, kD S K)] (some (p, S.st, tsD Pc R)) s.heap)
    (next : ∀ s', LF h0 L (lcl L) (XS L (lcl L) [ka, p]) hb (bsV S (pcsD Pc) (sntD Sn) p ka R) [(ka, kD S K)] (some (p, S.st, tsD Pc R)) s'.heap → s'.os = s.os → AllBare s'.gens → Q .next s') :
    wpAny (model thePr w) A (execs (rankB.drop 5) (lenv pm L)) Q E s := by
  have h1000 : 1000 ≤ sizeLine := by decide
  have hu : A.units + 64 < cLine := by have := hA.units; omega
  have T := tok D hR hRl
  have G0 : LG h0 L (lcl L) (XS L (lcl L) [ka, p]) hb (("odd", .d (.list [])) :: bsR S Pc Sn p ka R n) [(ka, kD S K)] (some (p, S.st, (R.map (pcR Pc)).map prD)) s.os s := ⟨g, rfl, hbare⟩
  have hsh : SeqAt.shaped (prI (-(R.length : Int), S.st + (R.map S.sz).sum)) = true := rfl
  have e1 : (!PyData.eqv (prI (-(R.length : Int), S.st + (R.map S.sz).sum)) (prI (-(R.length : Int), S.st + (R.map S.sz).sum))) = false := by
    rw [eqv_self (SeqAt.canLay_of_shaped hsh)]; rfl
  have eT : PyData.tuple [.int (-(((R.map (pcR Pc)).length : Nat) : Int)), .int (S.st + lenOf (R.map (pcR Pc)))] = prI (-(R.length : Int), S.st + (R.map S.sz).sum) := by rw [List.length_map, lenOf_ts D hR]
  refine st_ifX (b := false) G0 (TX.cast e1 (TX.cmp (op := .NotEq) (g := true) rfl (XV.tuple (.cons (XV.neg (XV.part (hA.le (by decide)) SL T NV.r rfl)) rfl (.cons (XV.len (hA.le (by decide)) SL T (NV.b SL) NV.r) rfl .nil)) (show 2 ≤ sizeLine by decide)) (EV.cast (by rw [hmin]) (ev_min hA hn hne SL rfl rfl rfl rfl)) (fun s E x y as bs rx ry => by rw [eT] at rx; exact opNe hu hsh hsh s E x y as bs rx ry))) fun s1 G1 => wpAny_execs_nil ?_
  have hsl : SeqAt.shaped (.list []) = true := rfl
  have e2 : (!PyData.eqv (.list []) (.list [])) = false := by rw [eqv_nil]; rfl
  have e3 : (Txt.join "" (texts (R.map (pcR Pc))) != Txt.join "" (R.map fun r => mkS (snR Sn r))) = false := by rw [texts_eq D hR]; simp
  refine st_ifX (b := false) G1 (TX.or2 (TX.ofTV (TV.cast e2 (TV.ned (f := false) (g := true) mono_LF hu hsl hsl (EV.n (d := .list [])) (EV.list EVs.nil (by decide)) rfl))) (TX.cast e3 (TX.cmp (op := .NotEq) (g := true) rfl (XV.str (hA.le (by decide)) SL T (NV.b SL) NV.r) (ev_joinR D hA hR hRl (IT.list hA.handled (EV.n (d := .list (R.map .int)))) rfl (fun _ => rfl) rfl) opNes))) fun s2 G2 => wpAny_execs_nil (wpAny_execs_nil ?_)
  exact @next s2 (G2.lf.sub fun q hq => by
    simp only [List.mem_cons, List.not_mem_nil, or_false] at hq
    rcases hq with rfl | rfl | rfl | rfl | rfl | rfl | rfl | rfl | rfl | rfl | rfl <;> rfl) G2.os G2.bare
/- a turn of the ranks' loop, behind the name -/
theorem turnC {R2 K2 : List Int} (D : DOk S Pc Sn) (hA : Room 6 A) (hn : n ∈ R6) (hR : ∀ r ∈ R, r ∈ R6) (hRs : (R ++ [n]).Pairwise (· < ·)) (hRl : R.length ≤ 5) (hKl : K.length ≤ 5) (hKn : ∀ r ∈ K, r < n) (hKs : K.Pairwise fun a b => S.sz a ≤ S.sz b)
    (hlate : late S (R ++ [n]) n = true → ∃ o, insAt K (posK S K n) n = K2 ++ [o] ∧ o ∈ R ++ [n] ∧ (∀ r ∈ R ++ [n], oddB S o r = false) ∧ R2 = (R ++ [n]).filter fun r => r != o)
    (hin : late S (R ++ [n]) n = false → K2 = insAt K (posK S K n) n ∧ R2 = R ++ [n])
    (hne : candD S n ≠ []) (hmin : minI (candD S n) = (-(R2.length : Int), S.st + (R2.map S.sz).sum)) (hbare : AllBare s.gens)
    (SL : LS h0 L (lcl L) (XS L (lcl L) [ka, p]) [(ka, kD S K)] (some (p, S.st, tsD Pc R))) (g : LF h0 L (lcl L) (XS L (lcl L) [ka, p]) hb (bsR S Pc Sn p ka R n) [(ka, kD S K)] (some (p, S.st, tsD Pc R)) s.heap)
    (next : ∀ s', LF h0 L (lcl L) (XS L (lcl L) [ka, p]) hb (bsV S (pcsD Pc) (sntD Sn) p ka R2) [(ka, kD S K2)] (some (p, S.st, tsD Pc R2)) s'.heap → s'.os = s.os → AllBare s'.gens → Q .next s') :
    wpAny (model thePr w) A (execs rankB (lenv pm L)) Q E s := by
  obtain ⟨hn0, hn5⟩ := R6_lo hn
  have hR' : ∀ r ∈ R ++ [n], r ∈ R6 := fun r hr => by
    rcases List.mem_append.mp hr with h | h
    · exact hR r h
    · rw [List.mem_singleton.mp h]; exact hn
  have hRl' : (R ++ [n]).length ≤ 6 := by simp; omega
  refine turnA D hA hn hR hRl hKl hKn hKs SL g fun h1 tk1 g1 => ?_
  generalize hK' : insAt K (posK S K n) n = K' at g1 hlate hin
  have hKl' : K'.length ≤ 6 := by rw [← hK', length_insAt]; omega
  have S1 : LS h0 L (lcl L) (XS L (lcl L) [ka, p]) [(ka, kD S K')] (some (p, S.st, tsD Pc (R ++ [n]))) := (SL.reMs (ms' := [(ka, kD S K')]) rfl).rePl
  have T := tok D hR' hRl'
  have G0 : LG h0 L (lcl L) (XS L (lcl L) [ka, p]) hb (("odd", .d (.list [])) :: bsR S Pc Sn p ka (R ++ [n]) n) [(ka, kD S K')] (some (p, S.st, ((R ++ [n]).map (pcR Pc)).map prD)) s.os { s with heap := h1, toks := tk1 } := ⟨g1, rfl, hbare⟩
  have eL : decide (S.du n < S.st + lenOf ((R ++ [n]).map (pcR Pc))) = late S (R ++ [n]) n := by rw [lenOf_ts D hR']; rfl
  refine st_ifX (b := late S (R ++ [n]) n) G0 (TX.cast eL (TX.cmp (op := .Gt) (g := false) rfl (XV.len (hA.le (by decide)) S1 T (NV.b S1) NV.r) (EV.item mono_LF hn0 (by omega) (Six.du_at D.six hn) EV.n EV.n (fun _ _ => rfl)) opGt)) fun s2 G2 => ?_
  cases hl : late S (R ++ [n]) n with
  | false =>
    obtain ⟨rfl, rfl⟩ := hin hl
    rw [if_neg (by decide)]
    refine wpAny_execs_nil ?_
    exact turnC2 D hA hn hR' hRl' hne hmin G2.bare S1 G2.lf fun s3 g3 ho hba => @next s3 g3 (ho.trans G2.os) hba
  | true =>
    obtain ⟨o, rfl, ho, hmax, rfl⟩ := hlate hl
    rw [if_pos rfl]
    have hRf : ∀ r ∈ (R ++ [n]).filter fun r => r != o, r ∈ R6 := fun r hr => hR' r (List.mem_filter.mp hr).1
    have hRfl : ((R ++ [n]).filter fun r => r != o).length ≤ 6 := Nat.le_trans (List.length_filter_le _ _) hRl'
    refine turnB D hA hR' hRs hRl' (by simp at hKl'; omega) ho hmax G2.bare S1 G2.lf fun s3 g3 ho3 hba3 => wpAny_execs_nil ?_
    refine turnC2 D hA hn hRf hRfl hne hmin hba3 ((S1.reMs (ms' := [(ka, kD S K2)]) rfl).rePl (ps' := tsD Pc ((R ++ [n]).filter fun r => r != o))) g3 fun s4 g4 ho4 hba => @next s4 g4 (ho4.trans (ho3.trans G2.os)) hba
end
end Mine
set_option maxRecDepth 100000
set_option linter.all false
namespace Mine
open PySem PySem.Spec PySem.Calls PyProof.Rows PySem.W
/-! ## the ranks kept -/
noncomputable def lastK (K : List Int) : Int := K.getLast?.getD 0
noncomputable def mhStep (S : Six) (n : Int) (RK : List Int × List Int) : List Int × List Int :=
  if late S (RK.1 ++ [n]) n then ((RK.1 ++ [n]).filter (fun r => r != lastK (insAt RK.2 (posK S RK.2 n) n)), (insAt RK.2 (posK S RK.2 n) n).dropLast) else (RK.1 ++ [n], insAt RK.2 (posK S RK.2 n) n)
noncomputable def mh (S : Six) : Nat → List Int × List Int
  | 0 => ([], [])
  | i + 1 => mhStep S i (mh S i)
noncomputable def ordK (S : Six) (a b : Int) : Prop := S.sz a < S.sz b ∨ (S.sz a = S.sz b ∧ a < b)
structure MI (S : Six) (i : Nat) (RK : List Int × List Int) : Prop where
  asc : RK.1.Pairwise (· < ·)
  lt : ∀ r ∈ RK.1, 0 ≤ r ∧ r < i
  perm : RK.2.Perm RK.1
  ord : RK.2.Pairwise (ordK S)
theorem insAt_perm {α : Type} (l : List α) (k : Nat) (y : α) : (insAt l k y).Perm (l ++ [y]) := by
  unfold insAt
  refine List.perm_middle.trans ?_
  rw [List.take_append_drop]
  exact (List.perm_append_comm (l₁ := [y]) (l₂ := l))
theorem ord_ins {S : Six} {K : List Int} {n : Int} (h : K.Pairwise (ordK S)) (hn : ∀ r ∈ K, r < n) : (insAt K (posK S K n) n).Pairwise (ordK S) := by
  obtain ⟨_, h2⟩ := cut_filter (fun r => decide (S.sz r ≤ S.sz n)) K (h.imp fun {a b} h => by unfold ordK at h; simp; omega)
  have ht : ∀ x ∈ K.take (posK S K n), ordK S x n := fun x hx => by
    obtain ⟨i, hi⟩ := List.mem_iff_getElem?.mp hx
    have hi' : i < posK S K n := by
      have := (List.getElem?_eq_some_iff.mp hi).1
      rw [List.length_take] at this
      omega
    rw [List.getElem?_take_of_lt hi'] at hi
    have := (h2 i x hi).mpr hi'
    have := hn x (List.mem_of_getElem? hi)
    unfold ordK
    simp at *
    omega
  have hd : ∀ x ∈ K.drop (posK S K n), ordK S n x := fun x hx => by
    obtain ⟨i, hi⟩ := List.mem_iff_getElem?.mp hx
    rw [List.getElem?_drop] at hi
    have := (not_congr (h2 _ x hi)).mpr (by show ¬ posK S K n + i < posK S K n; omega)
    unfold ordK
    simp at this
    exact .inl this
  unfold insAt
  refine List.pairwise_append.mpr ⟨h.sublist (List.take_sublist _ _), List.pairwise_cons.mpr ⟨hd, h.sublist (List.drop_sublist _ _)⟩, fun a ha b hb => ?_⟩
  rcases List.mem_cons.mp hb with rfl | hb
  · exact ht a ha
  · have := ht a ha
    have := hd b hb
    unfold ordK at *
    omega
theorem MI.asc' {S : Six} {i : Nat} {RK : List Int × List Int} (h : MI S i RK) : (RK.1 ++ [(i : Int)]).Pairwise (· < ·) :=
  List.pairwise_append.mpr ⟨h.asc, List.pairwise_singleton _ _, fun a ha b hb => by rw [List.mem_singleton.mp hb]; exact (h.lt a ha).2⟩
theorem MI.lt' {S : Six} {i : Nat} {RK : List Int × List Int} (h : MI S i RK) : ∀ r ∈ RK.1 ++ [(i : Int)], 0 ≤ r ∧ r < ((i + 1 : Nat) : Int) := fun r hr => by
  rcases List.mem_append.mp hr with hr | hr
  · have := h.lt r hr; omega
  · rw [List.mem_singleton.mp hr]; omega
theorem MI.ins {S : Six} {i : Nat} {RK : List Int × List Int} (h : MI S i RK) : (insAt RK.2 (posK S RK.2 i) (i : Int)).Pairwise (ordK S) ∧ (insAt RK.2 (posK S RK.2 i) (i : Int)).Perm (RK.1 ++ [(i : Int)]) :=
  ⟨ord_ins h.ord fun r hr => (h.lt r (h.perm.mem_iff.mp hr)).2, (insAt_perm _ _ _).trans (h.perm.append_right _)⟩
/- the last in order -/
theorem MI.last {S : Six} {i : Nat} {RK : List Int × List Int} (h : MI S i RK) : ∃ K2 o, insAt RK.2 (posK S RK.2 i) (i : Int) = K2 ++ [o] ∧ lastK (insAt RK.2 (posK S RK.2 i) (i : Int)) = o ∧ o ∈ RK.1 ++ [(i : Int)] ∧ (∀ r ∈ RK.1 ++ [(i : Int)], oddB S o r = false) ∧ K2.Perm ((RK.1 ++ [(i : Int)]).filter fun r => r != o) ∧ K2.Pairwise (ordK S) := by
  obtain ⟨ho, hp⟩ := h.ins
  generalize insAt RK.2 (posK S RK.2 i) (i : Int) = K' at ho hp ⊢
  have hne : K' ≠ [] := by
    rintro rfl
    have := hp.length_eq
    simp at this
  obtain ⟨K2, o, rfl⟩ : ∃ K2 o, K' = K2 ++ [o] := ⟨K'.dropLast, K'.getLast hne, (List.dropLast_concat_getLast hne).symm⟩
  have hoR : o ∈ RK.1 ++ [(i : Int)] := hp.mem_iff.mp (by simp)
  obtain ⟨h1, _, h3⟩ := List.pairwise_append.mp ho
  refine ⟨K2, o, rfl, by simp [lastK], hoR, fun r hr => ?_, ?_, h1⟩
  · rcases List.mem_append.mp (hp.mem_iff.mpr hr) with hr | hr
    · have := h3 r hr o (by simp)
      unfold ordK at this
      unfold oddB
      simp
      omega
    · rw [List.mem_singleton.mp hr]
      unfold oddB
      simp
  · have hnd : (RK.1 ++ [(i : Int)]).Nodup := h.asc'.imp fun {a b} h => by omega
    have : (K2 ++ [o]).Perm (o :: (RK.1 ++ [(i : Int)]).erase o) := hp.trans (List.perm_cons_erase hoR)
    have := (List.perm_append_comm (l₁ := [o]) (l₂ := K2)).trans this
    have := List.Perm.cons_inv this
    rwa [hnd.erase_eq_filter] at this
theorem mh_inv (S : Six) : ∀ i, MI S i (mh S i)
  | 0 => ⟨.nil, fun r h => (nomatch h), .refl _, .nil⟩
  | i + 1 => by
    have h := mh_inv S i
    show MI S (i + 1) (mhStep S i (mh S i))
    generalize mh S i = RK at h ⊢
    unfold mhStep
    split
    · obtain ⟨K2, o, e, el, ho, _, hp, hs⟩ := h.last
      rw [el, e, List.dropLast_concat]
      exact ⟨h.asc'.sublist List.filter_sublist, fun r hr => h.lt' r (List.mem_filter.mp hr).1, hp, hs⟩
    · exact ⟨h.asc', h.lt', h.ins.2, h.ins.1⟩
theorem mh_len (S : Six) : ∀ i, (mh S i).1.length ≤ i
  | 0 => Nat.le_refl _
  | i + 1 => by
    have h := mh_len S i
    show (mhStep S i (mh S i)).1.length ≤ i + 1
    generalize mh S i = RK at h ⊢
    unfold mhStep
    split
    · refine Nat.le_trans (List.length_filter_le _ _) ?_
      simp; omega
    · simp; omega
theorem R6_of {r : Int} (h0 : 0 ≤ r) (h : r < 6) : r ∈ R6 := by
  unfold R6
  simp
  omega
noncomputable abbrev minOk (S : Six) : Prop := ∀ i : Nat, i < 6 → candD S i ≠ [] ∧ minI (candD S i) = (-((mh S (i + 1)).1.length : Int), S.st + ((mh S (i + 1)).1.map S.sz).sum)
section
variable {w : World} {A : Around} {s : Shared} {E : Value → Shared → Prop} {Q : Flow → Shared → Prop}
variable {h0 : Heap} {L : Addr} {hb : Heap} {pm : Value}
variable {S : Six} {Pc : List (Str × Str)} {Sn : List (List Nat)} {p ka : Addr}
/- the ranks' loop -/
theorem walk16 (D : DOk S Pc Sn) (hA : Room 6 A) (hm : minOk S) (hbare : AllBare s.gens) (SL : LS h0 L (lcl L) (XS L (lcl L) [ka, p]) [(ka, [])] (some (p, S.st, []))) (g : LF h0 L (lcl L) (XS L (lcl L) [ka, p]) hb (bsV S (pcsD Pc) (sntD Sn) p ka []) [(ka, [])] (some (p, S.st, [])) s.heap)
    (next : ∀ s' hb', LF h0 L (lcl L) (XS L (lcl L) [ka, p]) hb' (bsV S (pcsD Pc) (sntD Sn) p ka (mh S 6).1) [(ka, kD S (mh S 6).2)] (some (p, S.st, tsD Pc (mh S 6).1)) s'.heap → s'.os = s.os → AllBare s'.gens → wpAny (model thePr w) A (execs (lawB.drop 17) (lenv pm L)) Q E s') :
    wpAny (model thePr w) A (execs (lawB.drop 16) (lenv pm L)) Q E s := by
  have g0 := g.reX (X' := XS L (lcl L) [ka, p])
  have hX := g0.hX (fun a ha => by
    simp only [List.mem_cons, List.not_mem_nil, or_false] at ha
    rcases ha with rfl | rfl
    · exact g0.mutObj (by simp)
    · exact g0.pileObj)
  refine st_for (xs := rngD 0 1 6) (G := LF h0 L (lcl L) (XS L (lcl L) [ka, p]) hb (bsV S (pcsD Pc) (sntD Sn) p ka []) [(ka, [])] (some (p, S.st, [])))
    (fun i s' => ∃ hb', LF h0 L (lcl L) (XS L (lcl L) [ka, p]) hb' (bsV S (pcsD Pc) (sntD Sn) p ka (mh S i).1) [(ka, kD S (mh S i).2)] (some (p, S.st, tsD Pc (mh S i).1)) s'.heap ∧ s'.os = s.os ∧ AllBare s'.gens)
    (XS L (lcl L) [ka, p]) g (ITN.rng (n := 6) mono_LF hA.handled (NV.b SL) (EVs.cons mono_LF EV.int .nil) RC.one (by decide) (by decide)) ?_ hX ?_ ?_ ?_ ?_ (fun _ => rfl)
  · intro d hd
    obtain ⟨i, _, rfl⟩ := List.mem_map.mp hd
    rfl
  · rintro s' ⟨h', tk, rfl, k⟩
    exact ⟨_, g.kf k, rfl, hbare⟩
  · rintro i s' h' tk ⟨hb', g', ho, hba⟩ kp hold
    exact ⟨h', g0.step (hb' := hb') g' kp hold, ho, hba⟩
  · rintro i d s1 v E' hi ⟨hb', g', ho, hba⟩ r
    have hi' : i < 6 := by
      have := (List.getElem?_eq_some_iff.mp hi).1
      simpa using this
    have hd : d = .int ((i : Nat) : Int) := by
      have e : (rngD 0 1 6)[i]? = some (.int (0 + (i : Int) * 1)) := by simp [hi']
      rw [e] at hi
      have := (Option.some.inj hi).symm
      rw [this]; congr 1; omega
    subst hd
    have M := mh_inv S i
    have ml := mh_len S i
    obtain ⟨hne, hmin⟩ := hm i hi'
    have hL : late S ((mh S i).1 ++ [(i : Int)]) i = true → ∃ o, insAt (mh S i).2 (posK S (mh S i).2 i) (i : Int) = (mh S (i + 1)).2 ++ [o] ∧ o ∈ (mh S i).1 ++ [(i : Int)] ∧ (∀ r ∈ (mh S i).1 ++ [(i : Int)], oddB S o r = false) ∧ (mh S (i + 1)).1 = ((mh S i).1 ++ [(i : Int)]).filter fun r => r != o := fun hl => by
      obtain ⟨K2, o, e, el, ho, hmx, _⟩ := M.last
      refine ⟨o, ?_, ho, hmx, ?_⟩
      · show _ = (mhStep S i (mh S i)).2 ++ [o]
        unfold mhStep
        rw [if_pos hl, e, List.dropLast_concat]
      · show (mhStep S i (mh S i)).1 = _
        unfold mhStep
        rw [if_pos hl, el]
    have hI : late S ((mh S i).1 ++ [(i : Int)]) i = false → (mh S (i + 1)).2 = insAt (mh S i).2 (posK S (mh S i).2 i) (i : Int) ∧ (mh S (i + 1)).1 = (mh S i).1 ++ [(i : Int)] := fun hl => by
      show (mhStep S i (mh S i)).2 = _ ∧ (mhStep S i (mh S i)).1 = _
      unfold mhStep
      rw [if_neg (by rw [hl]; decide)]
      exact ⟨rfl, rfl⟩
    generalize (mh S (i + 1)).1 = R2 at hL hI hmin ⊢
    generalize (mh S (i + 1)).2 = K2 at hL hI ⊢
    generalize mh S i = RK at g' M ml hL hI
    have Sx : LS h0 L (lcl L) (XS L (lcl L) [ka, p]) [(ka, kD S RK.2)] (some (p, S.st, tsD Pc RK.1)) := (SL.reMs (ms' := [(ka, kD S RK.2)]) rfl).rePl
    have g4 := g'.reX (X' := XS L (lcl L) [ka, p])
    refine wpAny_assign_Name (wp_storeL Sx g4 (e := .d (.int (i : Int))) ⟨[], r, fun _ h => nomatch h⟩ rfl rfl (.inl ⟨rfl, rfl⟩) fun h2 tk2 g5 _ => ?_)
    refine turnC (s := { s1 with heap := h2, toks := tk2 }) (hb := s1.heap) D hA (R6_of (by omega) (by omega)) (fun r hr => by have := M.lt r hr; exact R6_of this.1 (by omega)) M.asc' (by omega) (by have := M.perm.length_eq; omega) (fun r hr => (M.lt r (M.perm.mem_iff.mp hr)).2) (M.ord.imp fun {a b} h => by unfold ordK at h; omega) hL hI hne hmin hba Sx g5 fun s3 g7 ho3 hba3 => ?_
    exact ⟨⟨_, g7, ho3.trans ho, hba3⟩, g7.kx⟩
  · rintro s' ⟨hb', g', ho, hba⟩
    exact @next s' hb' g' ho hba
end
end Mine
set_option maxRecDepth 100000
set_option linter.all false
namespace Mine
open PySem PySem.Spec PySem.Calls PyProof.Rows PySem.W
theorem glue_fold : ∀ (ps : List Str) (a : Array Nat), ps.foldl (fun acc p => acc ++ (#[] : Array Nat) ++ p.cps) a = a ++ (ps.map fun y => y.cps.toList).flatten.toArray
  | [], a => by simp
  | p :: ps, a => by
    rw [List.foldl_cons, glue_fold ps]
    obtain ⟨⟨l⟩⟩ := p
    simp
theorem join_mkS (ls : List (List Nat)) : Txt.join "" (ls.map mkS) = mkS ls.flatten := by
  unfold Txt.join Builtin.Str.glued
  have e : (Str.ofString "").cps = #[] := by decide +kernel
  rw [e, glue_fold]
  show Str.mk _ = Str.mk _
  cases ls with
  | nil => simp [Str.empty]
  | cons a r =>
    simp [mkS, Function.comp_def]
noncomputable def whiteB (S : Six) (Sn : List (List Nat)) (R : List Int) : Bool := S.st == 0 && (Txt.stripChars (Txt.join "" (R.map fun r => mkS (snR Sn r))) "\r\n" == "")
noncomputable abbrev wsOk (S : Six) (Pc : List (Str × Str)) (Sn : List (List Nat)) : Prop := ∀ R : List Int, (∀ r ∈ R, r ∈ R6) → onlyws S.st (R.map (pcR Pc)) = whiteB S Sn R
theorem rs_down {m : Nat} (h : m ≤ 6) : Builtin.Range.small (m : Int) 0 (-1) = true ∧ Builtin.Range.rangeSize (m : Int) 0 (-1) = m := by
  match m, h with
  | 0, _ | 1, _ | 2, _ | 3, _ | 4, _ | 5, _ | 6, _ => decide
section
variable {w : World} {A : Around} {s : Shared} {E : Value → Shared → Prop} {Q : Flow → Shared → Prop}
variable {h0 : Heap} {L : Addr} {X : Addr → Prop} {hb : Heap} {pm : Value}
variable {S : Six} {Pc : List (Str × Str)} {Sn : List (List Nat)} {p ka : Addr} {R K : List Int} {c : Nat}
noncomputable abbrev cntB : List Stmt := match lawB.getD 17 (.Pass ⟨0, 0, 0, 0⟩) with | .For _ _ b _ _ => b | _ => []
/- a turn of the last loop, behind the name -/
theorem turnW (D : DOk S Pc Sn) (hA : Room 6 A) (hw : wsOk S Pc Sn) (hR : ∀ r ∈ R, r ∈ R6) (hRl : R.length ≤ 6) (hc : c < R.length) (hbare : AllBare s.gens)
    (SL : LS h0 L (lcl L) X [(ka, kD S K)] (some (p, S.st, tsD Pc (R.take (c + 1))))) (g : LF h0 L (lcl L) X hb (("count", .d (.int ((c + 1 : Nat) : Int))) :: bsV S (pcsD Pc) (sntD Sn) p ka R) [(ka, kD S K)] (some (p, S.st, tsD Pc (R.take (c + 1)))) s.heap)
    (next : ∀ s', LF h0 L (lcl L) X hb (bsV S (pcsD Pc) (sntD Sn) p ka R) [(ka, kD S K)] (some (p, S.st, tsD Pc (R.take c))) s'.heap → s'.os = s.os → AllBare s'.gens → Q .next s') :
    wpAny (model thePr w) A (execs cntB (lenv pm L)) Q E s := by
  have h1000 : 1000 ≤ sizeLine := by decide
  have hu : A.units + 64 < cLine := by have := hA.units; omega
  have hRt : ∀ r ∈ R.take (c + 1), r ∈ R6 := fun r hr => hR r (List.mem_of_mem_take hr)
  have hRtl : (R.take (c + 1)).length ≤ 6 := by rw [List.length_take]; omega
  have hjl : (Txt.join "" ((R.take (c + 1)).map fun r => mkS (snR Sn r))).length ≤ sizeLine := by
    have e : (R.take (c + 1)).map (fun r => mkS (snR Sn r)) = ((R.take (c + 1)).map (snR Sn)).map mkS := by rw [List.map_map]; rfl
    have := sum_sn D hRt
    rw [e] at this ⊢
    rw [join_mkS, mkS_len, List.length_flatten]
    rw [List.map_map] at this
    have e2 : ((·.length) ∘ mkS : List Nat → Nat) = List.length := funext fun l => mkS_len l
    rw [e2] at this
    omega
  refine st_asg (x := "white") (d := .bool (whiteB S Sn (R.take (c + 1)))) (f := true) SL g rfl rfl (.inl ⟨rfl, rfl⟩) ?_ (.inl rfl) rfl fun h1 tk1 g1 => ?_
  · refine EV.andB (f := true) (g := true) mono_LF (EV.eqi mono_LF (EV.n (d := .int S.st)) EV.int) fun _ => EV.cmp (f := true) (g := true) (op := .Eq) mono_LF rfl rfl (EV.strip (y := "\r\n") mono_LF (ev_joinR D hA hRt hRtl ?_ rfl (fun _ => rfl) rfl) EV.str hjl) EV.str fun s E x y as bs _ rx ry => rdsS rx fun _ => rdsS ry fun _ => PyProof.Rows.eq_str ⟨⟨[], .bool _⟩, keeps_refl _⟩
    refine IT.list hA.handled (EV.cast (congrArg PyData.list ?_) (EV.slice mono_LF (EV.n (d := .list (R.map .int))) OE.none (OE.some (EV.n (d := .int ((c + 1 : Nat) : Int)))) OE.none (by decide) (flat_ints _) (by rw [List.length_map]; omega)))
    rw [pickD_to _ _ (Int.natCast_nonneg _), Int.toNat_natCast, ← List.map_take]
  obtain ⟨r, hr⟩ : ∃ r, R[c]? = some r := ⟨R[c], by simp [hc]⟩
  have eTk : R.take (c + 1) = R.take c ++ [r] := by rw [List.take_succ, hr]; rfl
  have hr6 : r ∈ R6 := hR r (List.mem_of_getElem? hr)
  obtain ⟨hr0, hr5⟩ := R6_lo hr6
  have hRc : ∀ r ∈ R.take c, r ∈ R6 := fun r hr => hR r (List.mem_of_mem_take hr)
  have T := tok D hRt hRtl
  have hws := hw _ hRt
  rw [eTk, List.map_append] at T hws
  have G0 : LG h0 L (lcl L) X hb (("white", .d (.bool (whiteB S Sn (R.take (c + 1))))) :: ("count", .d (.int ((c + 1 : Nat) : Int))) :: bsV S (pcsD Pc) (sntD Sn) p ka R) [(ka, kD S K)] (some (p, S.st, ((R.take c).map (pcR Pc) ++ [pcR Pc r]).map prD)) s.os { s with heap := h1, toks := tk1 } := by
    rw [eTk] at g1 ⊢
    refine ⟨?_, rfl, hbare⟩
    have e : tsD Pc (R.take c ++ [r]) = ((R.take c).map (pcR Pc) ++ [pcR Pc r]).map prD := by simp
    rw [e] at g1
    exact g1
  have S1 : LS h0 L (lcl L) X [(ka, kD S K)] (some (p, S.st, ((R.take c).map (pcR Pc) ++ [pcR Pc r]).map prD)) := SL.rePl
  have hsh : SeqAt.shaped (.tuple [.bool (whiteB S Sn (R.take (c + 1))), prD (pcR Pc r)]) = true := by
    have h := D.ok r hr6
    show ((true && ((PyData.strOk (pcR Pc r).1 && (PyData.strOk (pcR Pc r).2 && true)) && true)) && decide (max 0 (max (max 0 (max 0 0) + 1) 0) + 1 ≤ 64)) = true
    rw [h.1, h.2]; rfl
  have e1 : (!PyData.eqv (.tuple [.bool (whiteB S Sn (R.take (c + 1))), prD (pcR Pc r)]) (.tuple [.bool (whiteB S Sn (R.take (c + 1))), prD (pcR Pc r)])) = false := by
    rw [eqv_self (SeqAt.canLay_of_shaped hsh)]; rfl
  have eW : onlyws S.st ((R.take c).map (pcR Pc) ++ [pcR Pc r]) = whiteB S Sn (R.take (c + 1)) := by rw [eTk]; exact hws
  have hrr : (R.map PyData.int)[(((c + 1 : Nat) : Int) - 1).toNat]? = some (.int r) := by
    have : (((c + 1 : Nat) : Int) - 1).toNat = c := by omega
    rw [this, List.getElem?_map, hr]; rfl
  have b0 : (0 : Int) ≤ ((c + 1 : Nat) : Int) - 1 := by omega
  have b1 : ((c + 1 : Nat) : Int) - 1 < 2 ^ 63 := by omega
  refine st_ifX (b := false) G0 (TX.cast e1 (TX.cmp (op := .NotEq) (g := false) (pl := some (p, S.st, ((R.take c).map (pcR Pc)).map prD)) rfl (XV.tuple (.cons (XV.only (hA.le (by decide)) S1 T NV.r rfl) rfl (.cons (XV.pop (hA.le (by decide)) S1 T NV.r rfl) rfl .nil)) (show 2 ≤ sizeLine by decide))
    (EV.tuple (.cons mono_LF (EV.n (d := .bool (whiteB S Sn (R.take (c + 1))))) (.cons mono_LF (EV.item mono_LF hr0 (by omega) (pc_at D hr6) (EV.n (d := pcsD Pc)) (EV.item mono_LF b0 b1 hrr (EV.n (d := .list (R.map .int))) (EV.sub mono_LF (EV.n (d := .int ((c + 1 : Nat) : Int))) EV.int) (fun _ _ => rfl)) (fun _ _ => rfl)) .nil)) (show 2 ≤ sizeLine by decide))
    (fun s E x y as bs rx ry => by rw [eW] at rx; exact opNe hu hsh hsh s E x y as bs rx ry))) fun s2 G2 => wpAny_execs_nil (wpAny_execs_nil ?_)
  exact @next s2 (G2.lf.sub fun q hq => by
    simp only [List.mem_cons, List.not_mem_nil, or_false] at hq
    rcases hq with rfl | rfl | rfl | rfl | rfl | rfl | rfl | rfl | rfl | rfl | rfl <;> rfl) G2.os G2.bare
end
end Mine
set_option maxRecDepth 100000
set_option linter.all false
namespace Mine
open PySem PySem.Spec PySem.Calls PyProof.Rows PySem.W
section
variable {w : World} {A : Around} {s : Shared} {E : Value → Shared → Prop} {Q : Flow → Shared → Prop}
variable {h0 : Heap} {L : Addr} {hb : Heap} {pm : Value}
variable {S : Six} {Pc : List (Str × Str)} {Sn : List (List Nat)} {p ka : Addr} {R K : List Int}
/- the count loop -/
theorem walk17 (D : DOk S Pc Sn) (hA : Room 6 A) (hw : wsOk S Pc Sn) (hR : ∀ r ∈ R, r ∈ R6) (hRl : R.length ≤ 6) (hbare : AllBare s.gens) (SL : LS h0 L (lcl L) (XS L (lcl L) [ka, p]) [(ka, kD S K)] (some (p, S.st, tsD Pc R))) (g : LF h0 L (lcl L) (XS L (lcl L) [ka, p]) hb (bsV S (pcsD Pc) (sntD Sn) p ka R) [(ka, kD S K)] (some (p, S.st, tsD Pc R)) s.heap)
    (next : ∀ s' hb', LF h0 L (lcl L) (XS L (lcl L) [ka, p]) hb' (bsV S (pcsD Pc) (sntD Sn) p ka R) [(ka, kD S K)] (some (p, S.st, [])) s'.heap → s'.os = s.os → AllBare s'.gens → wpAny (model thePr w) A (execs (lawB.drop 18) (lenv pm L)) Q E s') :
    wpAny (model thePr w) A (execs (lawB.drop 17) (lenv pm L)) Q E s := by
  have g0 := g.reX (X' := XS L (lcl L) [ka, p])
  have hX := g0.hX (fun a ha => by
    simp only [List.mem_cons, List.not_mem_nil, or_false] at ha
    rcases ha with rfl | rfl
    · exact g0.mutObj (by simp)
    · exact g0.pileObj)
  obtain ⟨d1, d2⟩ := rs_down hRl
  refine st_for (xs := rngD (R.length : Int) (-1) R.length) (G := LF h0 L (lcl L) (XS L (lcl L) [ka, p]) hb (bsV S (pcsD Pc) (sntD Sn) p ka R) [(ka, kD S K)] (some (p, S.st, tsD Pc R)))
    (fun i s' => ∃ hb', LF h0 L (lcl L) (XS L (lcl L) [ka, p]) hb' (bsV S (pcsD Pc) (sntD Sn) p ka R) [(ka, kD S K)] (some (p, S.st, tsD Pc (R.take (R.length - i)))) s'.heap ∧ s'.os = s.os ∧ AllBare s'.gens)
    (XS L (lcl L) [ka, p]) g (ITN.rng (b := true) (ds := [.int (R.length : Int), .int 0, .int (-1)]) (n := R.length) mono_LF hA.handled (NV.b SL) (EVs.cons mono_LF (EV.cast (by rw [List.length_map]) (EV.len mono_LF (NV.b SL) (EV.n (d := .list (R.map .int))) (by rw [List.length_map]; omega))) (EVs.cons mono_LF EV.int (EVs.cons mono_LF (EV.neg EV.int) .nil))) (RC.three (by decide) (PyProof.noPylong_small (by decide))) d1 d2) ?_ hX ?_ ?_ ?_ ?_ (fun _ => rfl)
  · intro d hd
    obtain ⟨i, _, rfl⟩ := List.mem_map.mp hd
    rfl
  · rintro s' ⟨h', tk, rfl, k⟩
    refine ⟨hb, ?_, rfl, hbare⟩
    have := g.kf k
    rwa [Nat.sub_zero, List.take_length]
  · rintro i s' h' tk ⟨hb', g', ho, hba⟩ kp hold
    exact ⟨h', g0.step (hb' := hb') g' kp hold, ho, hba⟩
  · rintro i d s1 v E' hi ⟨hb', g', ho, hba⟩ r
    have hi' : i < R.length := by
      have := (List.getElem?_eq_some_iff.mp hi).1
      simpa using this
    obtain ⟨c, hc⟩ : ∃ c, R.length - i = c + 1 := ⟨R.length - i - 1, by omega⟩
    have hd : d = .int ((c + 1 : Nat) : Int) := by
      have e : (rngD (R.length : Int) (-1) R.length)[i]? = some (.int ((R.length : Int) + (i : Int) * (-1))) := by simp [hi']
      rw [e] at hi
      have := (Option.some.inj hi).symm
      rw [this]; exact congrArg PyData.int (by omega)
    subst hd
    have hc2 : R.length - (i + 1) = c := by omega
    rw [hc] at g'
    have Sx : LS h0 L (lcl L) (XS L (lcl L) [ka, p]) [(ka, kD S K)] (some (p, S.st, tsD Pc (R.take (c + 1)))) := SL.rePl
    have g4 := g'.reX (X' := XS L (lcl L) [ka, p])
    refine wpAny_assign_Name (wp_storeL Sx g4 (e := .d (.int ((c + 1 : Nat) : Int))) ⟨[], r, fun _ h => nomatch h⟩ rfl rfl (.inl ⟨rfl, rfl⟩) fun h2 tk2 g5 _ => ?_)
    refine turnW (s := { s1 with heap := h2, toks := tk2 }) (hb := s1.heap) D hA hw hR hRl (by omega) hba Sx g5 fun s3 g7 ho3 hba3 => ?_
    exact ⟨⟨s1.heap, by rw [hc2]; exact g7, ho3.trans ho, hba3⟩, g7.kx⟩
  · rintro s' ⟨hb', g', ho, hba⟩
    have e : (rngD (R.length : Int) (-1) R.length).length = R.length := by simp
    rw [e, Nat.sub_self, List.take_zero] at g'
    exact @next s' hb' g' ho hba
theorem onlyws_nil (st : Int) : onlyws st [] = (st == 0) := by
  unfold onlyws lenOf
  cases h : st == 0 with
  | false => rfl
  | true =>
    have : st = 0 := by simpa using h
    subst this
    rfl
/- the last answer -/
theorem walk18 {X : Addr → Prop} (hA : Room 6 A) (hst : 0 ≤ S.st ∧ S.st ≤ 3) (hbare : AllBare s.gens) (SL : LS h0 L (lcl L) X [(ka, kD S K)] (some (p, S.st, []))) (g : LF h0 L (lcl L) X hb (bsV S (pcsD Pc) (sntD Sn) p ka R) [(ka, kD S K)] (some (p, S.st, [])) s.heap)
    (next : ∀ s', LF h0 L (lcl L) X hb (bsV S (pcsD Pc) (sntD Sn) p ka R) [(ka, kD S K)] (some (p, S.st, [])) s'.heap → s'.os = s.os → AllBare s'.gens → Q (.ret (.bool true)) s') :
    wpAny (model thePr w) A (execs (lawB.drop 18) (lenv pm L)) Q E s := by
  have h1000 : 1000 ≤ sizeLine := by decide
  have hu : A.units + 64 < cLine := by have := hA.units; omega
  have T : TOk S.st [] := ⟨Nat.zero_le _, fun q h => (nomatch h), by unfold lenOf; simp; omega⟩
  have hj : Txt.join "" (texts []) = ("" : Str) := by
    have := join_mkS []
    rw [show ("" : Str) = mkS ([] : List (List Nat)).flatten by decide +kernel]
    exact this
  have ed : PyData.list [.int (S.st + lenOf []), .tuple [.str "", .str ""], .str (Txt.join "" (texts [])), .bool (onlyws S.st [])] = .list [.int S.st, .tuple [.str "", .str ""], .str "", .bool (S.st == 0)] := by
    rw [hj, onlyws_nil]
    have : lenOf [] = 0 := rfl
    rw [this, Int.add_zero]
  have hsh : SeqAt.shaped (.list [.int S.st, .tuple [.str "", .str ""], .str "", .bool (S.st == 0)]) = true := by
    have h : PyData.strOk "" = true := by decide +kernel
    show ((true && ((PyData.strOk "" && (PyData.strOk "" && true)) && (PyData.strOk "" && (true && true)))) && decide (_ ≤ 64)) = true
    rw [h]; rfl
  have e1 : PyData.eqv (.list [.int S.st, .tuple [.str "", .str ""], .str "", .bool (S.st == 0)]) (.list [.int S.st, .tuple [.str "", .str ""], .str "", .bool (S.st == 0)]) = true := eqv_self (SeqAt.canLay_of_shaped hsh)
  have G0 : LG h0 L (lcl L) X hb (bsV S (pcsD Pc) (sntD Sn) p ka R) [(ka, kD S K)] (some (p, S.st, ([] : List (Str × Str)).map prD)) s.os s := ⟨g, rfl, hbare⟩
  have SL' : LS h0 L (lcl L) X [(ka, kD S K)] (some (p, S.st, ([] : List (Str × Str)).map prD)) := SL
  refine wpAny_execs_cons (wpAny_Return_some (wpAny_mono (XV.cmp (op := .Eq) (c := true) (g := true) (b := .list [.int S.st, .tuple [.str "", .str ""], .str "", .bool (S.st == 0)]) rfl (XV.list (.cons (XV.len (ts := []) (hA.le (by decide)) SL' T (NV.b SL') NV.r) rfl (.cons (XV.pop0 (hA.le (by decide)) SL' NV.r rfl) rfl (.cons (XV.str (ts := []) (hA.le (by decide)) SL' T (NV.b SL') NV.r) rfl (.cons (XV.only (ts := []) (hA.le (by decide)) SL' T NV.r rfl) rfl .nil)))) (show 4 ≤ sizeLine by decide))
    (EV.list (.cons mono_LF (EV.new EV.n rfl) (.cons mono_LF (EV.tuple (.cons mono_LF EV.str (.cons mono_LF EV.str .nil)) (show 2 ≤ sizeLine by decide)) (.cons mono_LF EV.str (.cons mono_LF (EV.eqi mono_LF EV.n EV.int) .nil)))) (show 4 ≤ sizeLine by decide))
    (fun s E x y as bs rx ry => by rw [ed] at rx; have := opEq (A := A) (w := w) hu hsh hsh s E x y as bs rx ry; rwa [e1] at this) s E G0) (fun v s1 h1 => ?_) fun _ _ x => x))
  obtain ⟨⟨as, r⟩, G1, _⟩ := h1
  first | refine rdsI r fun _ => ?_ | refine rdsS r fun _ => ?_ | refine rdsB r ?_ | refine rdsN r ?_
  exact @next s1 G1.lf G1.os G1.bare
end
end Mine
set_option maxRecDepth 100000
set_option linter.all false
namespace Mine
open PySem PySem.Spec PySem.Calls PyProof.Rows PySem.W
/-! ## the plain law: the greedy choice is the least -/
noncomputable def tot (S : Six) (T : List Int) : Int := (T.map S.sz).sum
theorem tot_append (S : Six) (A B : List Int) : tot S (A ++ B) = tot S A + tot S B := by unfold tot; rw [List.map_append, List.sum_append]
theorem tot_cons (S : Six) (a : Int) (B : List Int) : tot S (a :: B) = S.sz a + tot S B := by unfold tot; rw [List.map_cons, List.sum_cons]
theorem tot_nil (S : Six) : tot S [] = 0 := rfl
theorem nil_or_snoc (B : List Int) : B = [] ∨ ∃ B' l, B = B' ++ [l] := by
  rcases List.eq_nil_or_concat B with h | ⟨B', l, h⟩
  · exact .inl h
  · exact .inr ⟨B', l, by rw [h, List.concat_eq_append]⟩
theorem tot_one (S : Six) (a : Int) : tot S [a] = S.sz a := by rw [tot_cons]; unfold tot; simp
theorem tot_perm {S : Six} {A B : List Int} (h : A.Perm B) : tot S A = tot S B := by
  unfold tot
  induction h with
  | nil => rfl
  | cons x _ ih => rw [List.map_cons, List.map_cons, List.sum_cons, List.sum_cons, ih]
  | swap x y l => simp only [List.map_cons, List.sum_cons]; omega
  | trans _ _ h1 h2 => rw [h1, h2]
/- all in time, by order of rank -/
noncomputable def Feas (S : Six) (T : List Int) : Prop := ∀ T1 r T2, T = T1 ++ r :: T2 → S.st + tot S (T1 ++ [r]) ≤ S.du r
theorem Feas.nil {S : Six} : Feas S [] := fun T1 r T2 h => by cases T1 <;> cases h
theorem Feas.init {S : Six} {T : List Int} {n : Int} (h : Feas S (T ++ [n])) : Feas S T := fun T1 r T2 e => h T1 r (T2 ++ [n]) (by rw [e]; simp)
theorem Feas.last {S : Six} {T : List Int} {n : Int} (h : Feas S (T ++ [n])) : S.st + tot S (T ++ [n]) ≤ S.du n := h T n [] rfl
theorem Feas.snoc {S : Six} {T : List Int} {n : Int} (h : Feas S T) (hn : S.st + tot S (T ++ [n]) ≤ S.du n) : Feas S (T ++ [n]) := fun T1 r T2 e => by
  rcases nil_or_snoc T2 with rfl | ⟨T2', x, rfl⟩
  · obtain ⟨rfl, e2⟩ := List.append_inj' e rfl
    cases e2
    exact hn
  · have e' : T ++ [n] = (T1 ++ r :: T2') ++ [x] := by rw [e]; simp
    obtain ⟨rfl, _⟩ := List.append_inj' e' rfl
    exact h T1 r T2' rfl
/- sizes are no less than nothing, dues go up -/
structure SOk (S : Six) : Prop where
  sz0 : ∀ r ∈ R6, 0 ≤ S.sz r
  du : ∀ r ∈ R6, ∀ q ∈ R6, r ≤ q → S.du r ≤ S.du q
theorem Feas.drop {S : Six} (H : SOk S) {A : List Int} {o : Int} (ho : o ∈ R6) : ∀ (k : Nat) (B : List Int), B.length = k → Feas S (A ++ o :: B) → Feas S (A ++ B)
  | 0, B, hk, h => by
    have : B = [] := List.length_eq_zero_iff.mp hk
    subst this
    rw [List.append_nil]
    exact Feas.init h
  | k + 1, B, hk, h => by
    rcases nil_or_snoc B with rfl | ⟨B', l, rfl⟩
    · cases hk
    · have e : A ++ o :: (B' ++ [l]) = (A ++ o :: B') ++ [l] := by simp
      rw [e] at h
      rw [← List.append_assoc]
      refine Feas.snoc (Feas.drop H ho k B' (by simpa using hk) (Feas.init h)) ?_
      have := Feas.last h
      have := H.sz0 o ho
      simp only [tot_append, tot_cons, tot_nil] at *
      omega
theorem Feas.ins {S : Six} (H : SOk S) {A : List Int} {r : Int} (hr : r ∈ R6) : ∀ (k : Nat) (B : List Int), B.length = k → (∀ x ∈ B, x ∈ R6 ∧ r ≤ x) → Feas S (A ++ B) → S.st + tot S (A ++ r :: B) ≤ S.du r → Feas S (A ++ r :: B)
  | 0, B, hk, _, h, hb => by
    have : B = [] := List.length_eq_zero_iff.mp hk
    subst this
    rw [List.append_nil] at h
    exact Feas.snoc h hb
  | k + 1, B, hk, hB, h, hb => by
    rcases nil_or_snoc B with rfl | ⟨B', l, rfl⟩
    · cases hk
    · have e : A ++ r :: (B' ++ [l]) = (A ++ r :: B') ++ [l] := by simp
      obtain ⟨hl6, hrl⟩ := hB l (by simp)
      have := H.sz0 l hl6
      have := H.du r hr l hl6 hrl
      rw [← List.append_assoc] at h
      rw [e] at hb ⊢
      refine Feas.snoc (Feas.ins H hr k B' (by simpa using hk) (fun x hx => hB x (by simp [hx])) (Feas.init h) ?_) ?_
      · simp only [tot_append, tot_cons, tot_nil] at *
        omega
      · omega
/- the sums of the smallest, behind an insertion -/
theorem take_ins_le {S : Six} {K : List Int} {n : Int} (hs : K.Pairwise fun a b => S.sz a ≤ S.sz b) {k : Nat} (hk : k ≤ K.length) : tot S ((insAt K (posK S K n) n).take k) ≤ tot S (K.take k) := by
  obtain ⟨_, h2⟩ := cut_filter (fun r => decide (S.sz r ≤ S.sz n)) K (hs.imp fun {a b} h => by simp; omega)
  have hle : posK S K n ≤ K.length := List.length_filter_le _ _
  unfold insAt
  rcases Nat.lt_or_ge (posK S K n) k with hlt | hge
  · obtain ⟨j, rfl⟩ : ∃ j, k = j + 1 := ⟨k - 1, by omega⟩
    have hx : K[j]? = some (K[j]'(by omega)) := by simp
    have hn := (not_congr (h2 j _ hx)).mpr (by show ¬ j < posK S K n; omega)
    simp at hn
    have e1 : (K.take (posK S K n) ++ n :: K.drop (posK S K n)).take (j + 1) = K.take (posK S K n) ++ n :: (K.drop (posK S K n)).take (j - posK S K n) := by
      rw [List.take_append, List.length_take, Nat.min_eq_left hle, List.take_of_length_le (by rw [List.length_take]; omega)]
      obtain ⟨d, hd⟩ : ∃ d, j + 1 - posK S K n = d + 1 := ⟨j - posK S K n, by omega⟩
      rw [hd, List.take_succ_cons]
      have : j - posK S K n = d := by omega
      rw [this]
    have e2 : K.take (j + 1) = K.take (posK S K n) ++ (K.drop (posK S K n)).take (j - posK S K n) ++ [K[j]'(by omega)] := by
      rw [List.take_succ, hx]
      have : K.take j = K.take (posK S K n) ++ (K.drop (posK S K n)).take (j - posK S K n) := by
        rw [← List.take_add]
        congr 1; omega
      rw [this]; rfl
    rw [e1, e2]
    simp only [tot_append, tot_cons, tot_nil]
    omega
  · rw [List.take_append_of_le_length (by rw [List.length_take]; omega), List.take_take, Nat.min_eq_left hge]
    exact Int.le_refl _
theorem take_ins_succ {S : Six} {K : List Int} {n : Int} (hs : K.Pairwise fun a b => S.sz a ≤ S.sz b) {k : Nat} (hk : k ≤ K.length) : tot S ((insAt K (posK S K n) n).take (k + 1)) ≤ tot S (K.take k) + S.sz n := by
  obtain ⟨_, h2⟩ := cut_filter (fun r => decide (S.sz r ≤ S.sz n)) K (hs.imp fun {a b} h => by simp; omega)
  have hle : posK S K n ≤ K.length := List.length_filter_le _ _
  unfold insAt
  rcases Nat.lt_or_ge k (posK S K n) with hlt | hge
  · have hx : K[k]? = some (K[k]'(by omega)) := by simp
    have hn := (h2 k _ hx).mpr hlt
    simp at hn
    rw [List.take_append_of_le_length (by rw [List.length_take]; omega), List.take_take, Nat.min_eq_left (by omega), List.take_succ, hx]
    simp only [tot_append, Option.toList_some, tot_cons, tot_nil]
    omega
  · have e1 : (K.take (posK S K n) ++ n :: K.drop (posK S K n)).take (k + 1) = K.take (posK S K n) ++ n :: (K.drop (posK S K n)).take (k - posK S K n) := by
      rw [List.take_append, List.length_take, Nat.min_eq_left hle, List.take_of_length_le (by rw [List.length_take]; omega)]
      obtain ⟨d, hd⟩ : ∃ d, k + 1 - posK S K n = d + 1 := ⟨k - posK S K n, by omega⟩
      rw [hd, List.take_succ_cons]
      have : k - posK S K n = d := by omega
      rw [this]
    have e2 : K.take k = K.take (posK S K n) ++ (K.drop (posK S K n)).take (k - posK S K n) := by
      rw [← List.take_add]
      congr 1; omega
    rw [e1, e2]
    simp only [tot_append, tot_cons, tot_nil]
    omega
end Mine
set_option maxRecDepth 100000
set_option linter.all false
namespace Mine
open PySem PySem.Spec PySem.Calls PyProof.Rows PySem.W
structure Opt (S : Six) (i : Nat) (RK : List Int × List Int) : Prop where
  feas : Feas S RK.1
  best : ∀ T, Feas S T → T.Pairwise (· < ·) → (∀ r ∈ T, r ∈ R6 ∧ r < (i : Int)) → T.length ≤ RK.2.length ∧ tot S (RK.2.take T.length) ≤ tot S T
theorem late_iff {S : Six} {R : List Int} {n : Int} : late S R n = true ↔ S.du n < S.st + tot S R := by
  unfold late tot; simp
/- what is left without the one taken out is in time -/
theorem feas_out {S : Six} (H : SOk S) {i : Nat} (hi : i < 6) {R : List Int} {o : Int} (hasc : (R ++ [(i : Int)]).Pairwise (· < ·)) (hlt : ∀ r ∈ R, 0 ≤ r ∧ r < (i : Int)) (hf : Feas S R) (ho : o ∈ R ++ [(i : Int)]) (hmx : S.sz i ≤ S.sz o) : Feas S ((R ++ [(i : Int)]).filter fun r => r != o) := by
  have hi6 : (i : Int) ∈ R6 := R6_of (by omega) (by omega)
  rcases List.mem_append.mp ho with ho | ho
  · obtain ⟨A, B, rfl⟩ := List.append_of_mem ho
    have ho6 : o ∈ R6 := by have := hlt o (by simp); exact R6_of this.1 (by omega)
    obtain ⟨h1, h2, h3⟩ := List.pairwise_append.mp hasc
    obtain ⟨h4, h5, h6⟩ := List.pairwise_append.mp h1
    obtain ⟨h7, h8⟩ := List.pairwise_cons.mp h5
    have hA : A.filter (fun r => r != o) = A := List.filter_eq_self.mpr fun x hx => by have := h6 x hx o (by simp); simp; omega
    have hB : B.filter (fun r => r != o) = B := List.filter_eq_self.mpr fun x hx => by have := h7 x hx; simp; omega
    have hio : o < (i : Int) := (hlt o (by simp)).2
    have e : ((A ++ o :: B) ++ [(i : Int)]).filter (fun r => r != o) = (A ++ B) ++ [(i : Int)] := by
      rw [List.filter_append, List.filter_append, hA, List.filter_cons_of_neg (by simp), hB, List.filter_cons_of_pos (by simp; omega)]
      rfl
    rw [e]
    refine Feas.snoc (Feas.drop H ho6 _ B rfl hf) ?_
    rcases nil_or_snoc (A ++ o :: B) with h | ⟨R0, l, h⟩
    · simp at h
    · have hl : l ∈ A ++ o :: B := by rw [h]; simp
      obtain ⟨hl0, hli⟩ := hlt l hl
      have hd := H.du l (R6_of hl0 (by omega)) i hi6 (by omega)
      have hb : S.st + tot S (A ++ o :: B) ≤ S.du l := by
        rw [h] at hf ⊢
        exact Feas.last hf
      simp only [tot_append, tot_cons, tot_nil] at *
      omega
  · have : o = i := List.mem_singleton.mp ho
    subst this
    have e : (R ++ [(i : Int)]).filter (fun r => r != (i : Int)) = R := by
      rw [List.filter_append, List.filter_eq_self.mpr fun x hx => by have := (hlt x hx).2; simp; omega, List.filter_cons_of_neg (by simp)]
      simp
    rw [e]
    exact hf
theorem opt {S : Six} (H : SOk S) : ∀ i : Nat, i ≤ 6 → Opt S i (mh S i)
  | 0, _ => ⟨Feas.nil, fun T _ _ hT => by
      have : T = [] := List.eq_nil_iff_forall_not_mem.mpr fun r hr => by
        obtain ⟨a, b⟩ := hT r hr
        have := R6_lo a
        omega
      subst this
      exact ⟨Nat.le_refl _, Int.le_refl _⟩⟩
  | i + 1, hi => by
    have O := opt H i (by omega)
    have M := mh_inv S i
    show Opt S (i + 1) (mhStep S i (mh S i))
    generalize mh S i = RK at O M ⊢
    have hsz : RK.2.Pairwise fun a b => S.sz a ≤ S.sz b := M.ord.imp fun {a b} h => by unfold ordK at h; omega
    have hKl := M.ins.2.length_eq
    have hKt := tot_perm (S := S) M.ins.2
    have hins : (insAt RK.2 (posK S RK.2 i) (i : Int)).length = RK.2.length + 1 := length_insAt
    obtain ⟨K2, o, e, el, ho, hmx, hp, hs⟩ := M.last
    have low : ∀ T, Feas S T → T.Pairwise (· < ·) → (∀ r ∈ T, r ∈ R6 ∧ r < (i : Int)) → T.length ≤ RK.2.length ∧ tot S ((insAt RK.2 (posK S RK.2 i) (i : Int)).take T.length) ≤ tot S T := fun T h1 h2 h3 => by
      obtain ⟨a, b⟩ := O.best T h1 h2 h3
      exact ⟨a, Int.le_trans (take_ins_le hsz a) b⟩
    have high : ∀ T, Feas S (T ++ [(i : Int)]) → T.Pairwise (· < ·) → (∀ r ∈ T, r ∈ R6 ∧ r < (i : Int)) → T.length ≤ RK.2.length ∧ tot S ((insAt RK.2 (posK S RK.2 i) (i : Int)).take (T.length + 1)) ≤ tot S (T ++ [(i : Int)]) := fun T h1 h2 h3 => by
      obtain ⟨a, b⟩ := O.best T (Feas.init h1) h2 h3
      refine ⟨a, Int.le_trans (take_ins_succ hsz a) ?_⟩
      rw [tot_append, tot_one]
      omega
    have split : ∀ T : List Int, T.Pairwise (· < ·) → (∀ r ∈ T, r ∈ R6 ∧ r < ((i + 1 : Nat) : Int)) → (∀ r ∈ T, r ∈ R6 ∧ r < (i : Int)) ∨ ∃ T0, T = T0 ++ [(i : Int)] ∧ T0.Pairwise (· < ·) ∧ ∀ r ∈ T0, r ∈ R6 ∧ r < (i : Int) := fun T h1 h2 => by
      rcases nil_or_snoc T with rfl | ⟨T0, l, rfl⟩
      · exact .inl fun r hr => nomatch hr
      · obtain ⟨a, b, c⟩ := List.pairwise_append.mp h1
        obtain ⟨l6, hl⟩ := h2 l (by simp)
        have h0 : ∀ r ∈ T0, r ∈ R6 ∧ r < l := fun r hr => ⟨(h2 r (by simp [hr])).1, c r hr l (by simp)⟩
        by_cases hli : l = i
        · subst hli
          exact .inr ⟨T0, rfl, a, h0⟩
        · refine .inl fun r hr => ?_
          rcases List.mem_append.mp hr with hr | hr
          · have := h0 r hr; exact ⟨this.1, by omega⟩
          · rw [List.mem_singleton.mp hr]; exact ⟨l6, by omega⟩
    unfold mhStep
    rw [el]
    generalize insAt RK.2 (posK S RK.2 i) (i : Int) = K' at hKl hKt hins low high e ⊢
    cases hl : late S (RK.1 ++ [(i : Int)]) i with
    | false =>
      rw [if_neg (by decide)]
      have hl' : S.st + tot S (RK.1 ++ [(i : Int)]) ≤ S.du i := by
        have := (not_congr (late_iff (S := S) (R := RK.1 ++ [(i : Int)]) (n := i))).mp (by rw [hl]; decide)
        omega
      refine ⟨Feas.snoc O.feas hl', fun T h1 h2 h3 => ?_⟩
      rcases split T h2 h3 with h | ⟨T0, rfl, h4, h5⟩
      · obtain ⟨a, b⟩ := low T h1 h2 h
        exact ⟨by show T.length ≤ K'.length; omega, b⟩
      · obtain ⟨a, b⟩ := high T0 h1 h4 h5
        rw [List.length_append]
        exact ⟨by show T0.length + 1 ≤ K'.length; omega, b⟩
    | true =>
      rw [if_pos rfl]
      have hl' := late_iff.mp hl
      subst e
      rw [List.dropLast_concat]
      have hK2 : K2.length = RK.2.length := by rw [List.length_append] at hins; simpa using hins
      have tk : ∀ k, k ≤ K2.length → tot S (K2.take k) = tot S ((K2 ++ [o]).take k) := fun k hk => by rw [List.take_append_of_le_length hk]
      have hoi : S.sz i ≤ S.sz o := by
        have := hmx i (by simp)
        unfold oddB at this
        simp at this
        omega
      refine ⟨feas_out H (by omega) M.asc' M.lt O.feas ho hoi, fun T h1 h2 h3 => ?_⟩
      rcases split T h2 h3 with h | ⟨T0, rfl, h4, h5⟩
      · obtain ⟨a, b⟩ := low T h1 h2 h
        refine ⟨by show T.length ≤ K2.length; omega, ?_⟩
        show tot S (K2.take T.length) ≤ _
        rw [tk _ (by omega)]
        exact b
      · obtain ⟨a, b⟩ := high T0 h1 h4 h5
        have hb := Feas.last h1
        have hne : T0.length + 1 ≤ K2.length := by
          rcases Nat.lt_or_ge T0.length K2.length with h | h
          · exact h
          · have : T0.length + 1 = (K2 ++ [o]).length := by rw [List.length_append]; show _ = K2.length + 1; omega
            rw [this, List.take_length] at b
            omega
        rw [List.length_append]
        refine ⟨hne, ?_⟩
        show tot S (K2.take (T0.length + 1)) ≤ _
        rw [tk _ hne]
        exact b
end Mine
set_option maxRecDepth 100000
set_option linter.all false
namespace Mine
open PySem PySem.Spec PySem.Calls PyProof.Rows PySem.W
/-! ## the masks are the sets of ranks -/
theorem mask_out : (List.range 64).all (fun m => R6.all fun r => !bitT m r || (amongD (m - 2 ^ r.toNat) == (amongD m).filter (fun q => q != r))) = true := by decide +kernel
theorem mask_ne : (List.range 64).all (fun m => m == 0 || !(amongD m).isEmpty) = true := by decide +kernel
theorem mask_lo : (List.range 6).all (fun n => (List.range (2 ^ (n + 1))).all fun m => (amongD m).all fun r => decide (r < ((n + 1 : Nat) : Int))) = true := by decide +kernel
noncomputable def bits : List (List Bool) := [true, false].flatMap fun a => [true, false].flatMap fun b => [true, false].flatMap fun c => [true, false].flatMap fun d => [true, false].flatMap fun e => [true, false].map fun f => [a, b, c, d, e, f]
noncomputable def maskB (l : List Bool) : Nat := (l.zipIdx.map fun p => if p.1 then 2 ^ p.2 else 0).sum
noncomputable def selB (l : List Bool) : List Int := R6.filter fun r => l.getD r.toNat false
theorem mask_in : bits.all (fun l => (amongD (maskB l) == selB l) && (List.range 6).all fun n => !((selB l).all fun r => decide (r < ((n + 1 : Nat) : Int))) || decide (maskB l < 2 ^ (n + 1))) = true := by decide +kernel
theorem among_out {m : Nat} (hm : m < 64) {r : Int} (hr : r ∈ amongD m) : amongD (m - 2 ^ r.toNat) = (amongD m).filter (fun q => q != r) := by
  obtain ⟨h6, hb⟩ := mem_among hr
  have := List.all_eq_true.mp (List.all_eq_true.mp mask_out m (List.mem_range.mpr hm)) r h6
  rw [hb] at this
  simpa using this
theorem among_ne {m : Nat} (hm : m < 64) (h0 : m ≠ 0) : amongD m ≠ [] := by
  have := List.all_eq_true.mp mask_ne m (List.mem_range.mpr hm)
  intro h
  rw [h] at this
  simp at this
  exact h0 this
theorem among_lo {n m : Nat} (hn : n < 6) (hm : m < 2 ^ (n + 1)) {r : Int} (hr : r ∈ amongD m) : r < ((n + 1 : Nat) : Int) := by
  have := List.all_eq_true.mp (List.all_eq_true.mp (List.all_eq_true.mp mask_lo n (List.mem_range.mpr hn)) m (List.mem_range.mpr hm)) r hr
  exact of_decide_eq_true this
theorem R6_asc : R6.Pairwise (· < ·) := by decide
theorem among_asc (m : Nat) : (amongD m).Pairwise (· < ·) := R6_asc.sublist List.filter_sublist
theorem asc_sel {R : List Int} (h : R.Pairwise (· < ·)) (h6 : ∀ r ∈ R, r ∈ R6) : R = R6.filter fun r => decide (r ∈ R) := by
  have h2 : (R6.filter fun r => decide (r ∈ R)).Pairwise (· < ·) := R6_asc.sublist List.filter_sublist
  refine List.Perm.eq_of_pairwise (le := fun a b : Int => a < b) (fun a b _ _ h1 h2 => by omega) h h2 ?_
  refine (List.perm_ext_iff_of_nodup (h.imp fun {a b} h => by omega) (h2.imp fun {a b} h => by omega)).mpr fun a => ?_
  rw [List.mem_filter]
  constructor
  · exact fun ha => ⟨h6 a ha, by simpa using ha⟩
  · exact fun ha => by simpa using ha.2
theorem mask_of {R : List Int} (h : R.Pairwise (· < ·)) (h6 : ∀ r ∈ R, r ∈ R6) {n : Nat} (hn : n < 6) (hlo : ∀ r ∈ R, r < ((n + 1 : Nat) : Int)) : ∃ m, m < 2 ^ (n + 1) ∧ amongD m = R := by
  let l := R6.map fun r => decide (r ∈ R)
  have hl : l ∈ bits := by
    show [decide ((0 : Int) ∈ R), decide ((1 : Int) ∈ R), decide ((2 : Int) ∈ R), decide ((3 : Int) ∈ R), decide ((4 : Int) ∈ R), decide ((5 : Int) ∈ R)] ∈ bits
    generalize decide ((0 : Int) ∈ R) = a
    generalize decide ((1 : Int) ∈ R) = b
    generalize decide ((2 : Int) ∈ R) = c
    generalize decide ((3 : Int) ∈ R) = d
    generalize decide ((4 : Int) ∈ R) = e
    generalize decide ((5 : Int) ∈ R) = f
    revert a b c d e f
    decide +kernel
  have hs : selB l = R := by
    refine Eq.trans ?_ (asc_sel h h6).symm
    rfl
  have := List.all_eq_true.mp mask_in l hl
  rw [Bool.and_eq_true] at this
  obtain ⟨h1, h2⟩ := this
  have h3 := List.all_eq_true.mp h2 n (List.mem_range.mpr hn)
  rw [hs] at h1 h3
  have h4 : (R.all fun r => decide (r < ((n + 1 : Nat) : Int))) = true := List.all_eq_true.mpr fun r hr => decide_eq_true (hlo r hr)
  rw [h4] at h3
  exact ⟨maskB l, by simpa using h3, by simpa using h1⟩
theorem ableL_get (S : Six) {m : Nat} : ∀ {n : Nat}, m < n → (ableL S n).getD m false = (ableL S (m + 1)).getD m false
  | n + 1, h => by
    by_cases e : m = n
    · subst e; rfl
    · have hlt : m < n := by omega
      rw [ableL_succ S (by omega), ← ableL_get S hlt]
      simp [List.getD_eq_getElem?_getD, List.getElem?_append_left (show m < (ableL S n).length by rw [ableL_len]; exact hlt)]
theorem able_zero (S : Six) : (ableL S 64).getD 0 false = true := by rw [ableL_get S (by decide)]; rfl
theorem able_succ (S : Six) {m : Nat} (h1 : 1 ≤ m) (h : m < 64) : (ableL S 64).getD m false = true ↔ ∃ r ∈ amongD m, (ableL S 64).getD (m - 2 ^ r.toNat) false = true ∧ endsD S m ≤ S.du r := by
  have e : (ableL S 64).getD m false = ableNext S m (ableL S m) := by
    rw [ableL_get S h, ableL_succ S h1, List.getD_eq_getElem?_getD, List.getElem?_append_right (by rw [ableL_len]; exact Nat.le_refl _), ableL_len, Nat.sub_self]
    rfl
  have hlt : ∀ r ∈ amongD m, m - 2 ^ r.toNat < m := fun r hr => by
    obtain ⟨h6, hb⟩ := mem_among hr
    have := bit_sub h6 hb
    have : 1 ≤ 2 ^ r.toNat := Nat.one_le_two_pow
    omega
  rw [e]
  unfold ableNext
  rw [Bool.not_eq_true', List.isEmpty_eq_false_iff_exists_mem]
  constructor
  · rintro ⟨r, hr⟩
    obtain ⟨hr, hb⟩ := List.mem_filter.mp hr
    rw [Bool.and_eq_true] at hb
    refine ⟨r, hr, ?_, of_decide_eq_true hb.2⟩
    rw [ableL_get S (Nat.lt_trans (hlt r hr) h), ← ableL_get S (hlt r hr)]
    exact hb.1
  · rintro ⟨r, hr, h1, h2⟩
    refine ⟨r, List.mem_filter.mpr ⟨hr, ?_⟩⟩
    rw [Bool.and_eq_true]
    refine ⟨?_, decide_eq_true h2⟩
    rw [ableL_get S (hlt r hr), ← ableL_get S (Nat.lt_trans (hlt r hr) h)]
    exact h1
/- able is: all in time -/
theorem able_feas {S : Six} (H : SOk S) : ∀ (k m : Nat), m ≤ k → m < 64 → ((ableL S 64).getD m false = true ↔ Feas S (amongD m))
  | k, m, hk, h => by
    by_cases h0 : m = 0
    · subst h0
      have e : amongD 0 = [] := by decide
      rw [e]
      exact ⟨fun _ => Feas.nil, fun _ => able_zero S⟩
    · obtain ⟨k, rfl⟩ : ∃ k', k = k' + 1 := ⟨k - 1, by omega⟩
      have ih : ∀ r ∈ amongD m, ((ableL S 64).getD (m - 2 ^ r.toNat) false = true ↔ Feas S ((amongD m).filter fun q => q != r)) := fun r hr => by
        obtain ⟨h6, hb⟩ := mem_among hr
        have := bit_sub h6 hb
        have : 1 ≤ 2 ^ r.toNat := Nat.one_le_two_pow
        rw [able_feas H k _ (by omega) (by omega), among_out h hr]
      rw [able_succ S (by omega) h]
      have hasc := among_asc m
      have h6 : ∀ r ∈ amongD m, r ∈ R6 := fun r hr => (mem_among hr).1
      have hne := among_ne h h0
      have hends : endsD S m = S.st + tot S (amongD m) := rfl
      rw [hends]
      clear hends
      generalize amongD m = T at ih hasc h6 hne ⊢
      constructor
      · rintro ⟨r, hr, h1, h2⟩
        have h1 := (ih r hr).mp h1
        obtain ⟨A, B, rfl⟩ := List.append_of_mem hr
        obtain ⟨_, h5, h7⟩ := List.pairwise_append.mp hasc
        obtain ⟨h8, _⟩ := List.pairwise_cons.mp h5
        have e : (A ++ r :: B).filter (fun q => q != r) = A ++ B := by
          rw [List.filter_append, List.filter_cons_of_neg (by simp), List.filter_eq_self.mpr fun x hx => by have := h7 x hx r (by simp); simp; omega, List.filter_eq_self.mpr fun x hx => by have := h8 x hx; simp; omega]
        rw [e] at h1
        exact Feas.ins H (h6 r (by simp)) _ B rfl (fun x hx => ⟨h6 x (by simp [hx]), Int.le_of_lt (h8 x hx)⟩) h1 h2
      · intro hf
        rcases nil_or_snoc T with rfl | ⟨T0, l, rfl⟩
        · exact absurd rfl hne
        · have e : (T0 ++ [l]).filter (fun q => q != l) = T0 := by
            obtain ⟨_, _, h7⟩ := List.pairwise_append.mp hasc
            rw [List.filter_append, List.filter_eq_self.mpr fun x hx => by have := h7 x hx l (by simp); simp; omega, List.filter_cons_of_neg (by simp)]
            simp
          refine ⟨l, by simp, (ih l (by simp)).mpr ?_, Feas.last hf⟩
          rw [e]
          exact Feas.init hf
end Mine
set_option maxRecDepth 100000
set_option linter.all false
namespace Mine
open PySem PySem.Spec PySem.Calls PyProof.Rows PySem.W
noncomputable def ltP (a b : Int × Int) : Prop := a.1 < b.1 ∨ (a.1 = b.1 ∧ a.2 < b.2)
theorem ltI_iff {D : List (Int × Int)} {i j : Nat} : ltI D i j = true ↔ ltP (D.getD i (0, 0)) (D.getD j (0, 0)) := by
  unfold ltI ltP
  generalize D.getD i (0, 0) = a
  generalize D.getD j (0, 0) = b
  unfold lexLt
  by_cases h : a.1 = b.1
  · rw [if_pos h]
    unfold lexLt
    by_cases h2 : a.2 = b.2
    · rw [if_pos h2]; simp [lexLt]; omega
    · rw [if_neg h2]; simp; omega
  · rw [if_neg h]; simp; omega
theorem argBest_ltI (D : List (Int × Int)) : ∀ k, argBest (ltI D) k ≤ k ∧ ∀ j, j ≤ k → ¬ ltP (D.getD j (0, 0)) (D.getD (argBest (ltI D) k) (0, 0))
  | 0 => ⟨Nat.le_refl _, fun j hj => by
      have : j = 0 := by omega
      subst this
      show ¬ ltP (D.getD 0 (0, 0)) (D.getD 0 (0, 0))
      unfold ltP; omega⟩
  | k + 1 => by
    obtain ⟨h1, h2⟩ := argBest_ltI D k
    have ea : argBest (ltI D) (k + 1) = if ltI D (k + 1) (argBest (ltI D) k) then k + 1 else argBest (ltI D) k := rfl
    rw [ea]
    cases hb : ltI D (k + 1) (argBest (ltI D) k) with
    | true =>
      rw [if_pos rfl]
      have hlt := ltI_iff.mp hb
      refine ⟨Nat.le_refl _, fun j hj => ?_⟩
      by_cases e : j = k + 1
      · subst e; unfold ltP; omega
      · have := h2 j (by omega)
        unfold ltP at *
        omega
    | false =>
      rw [if_neg (by decide)]
      refine ⟨by omega, fun j hj => ?_⟩
      by_cases e : j = k + 1
      · subst e
        exact fun h => by rw [ltI_iff.mpr h] at hb; cases hb
      · exact h2 j (by omega)
theorem minI_mem {D : List (Int × Int)} (h : D ≠ []) : minI D ∈ D := by
  have hl : 0 < D.length := List.length_pos_iff.mpr h
  have := (argBest_ltI D (D.length - 1)).1
  have hlt : argBest (ltI D) (D.length - 1) < D.length := by omega
  unfold minI
  rw [List.getD_eq_getElem?_getD, List.getElem?_eq_getElem hlt]
  exact List.getElem_mem hlt
theorem minI_le {D : List (Int × Int)} {q : Int × Int} (h : q ∈ D) : ¬ ltP q (minI D) := by
  obtain ⟨j, hj, rfl⟩ := List.getElem_of_mem h
  have := (argBest_ltI D (D.length - 1)).2 j (by omega)
  rw [List.getD_eq_getElem?_getD, List.getElem?_eq_getElem hj] at this
  exact this
theorem min_ok {S : Six} (H : SOk S) : minOk S := fun i hi => by
  have O := opt H (i + 1) (by omega)
  have M := mh_inv S (i + 1)
  generalize mh S (i + 1) = RK at O M ⊢
  have hi1 : ((i : Int) + 1).toNat = i + 1 := by omega
  have hN : 2 ^ (i + 1) ≤ 64 := Nat.le_trans (Nat.pow_le_pow_right (by decide) (show i + 1 ≤ 6 by omega)) (by decide)
  have h6 : ∀ r ∈ RK.1, r ∈ R6 := fun r hr => by have := M.lt r hr; exact R6_of this.1 (by omega)
  obtain ⟨m0, hm0, e0⟩ := mask_of M.asc h6 hi fun r hr => (M.lt r hr).2
  have hmem : ((-(RK.1.length : Int), S.st + (RK.1.map S.sz).sum) : Int × Int) ∈ candD S i := by
    unfold candD
    rw [hi1]
    refine List.mem_map.mpr ⟨m0, List.mem_filter.mpr ⟨List.mem_range.mpr hm0, ?_⟩, ?_⟩
    · rw [able_feas H m0 m0 (Nat.le_refl _) (by omega), e0]
      exact O.feas
    · unfold pairI endsD
      rw [e0]
  have hne : candD S i ≠ [] := fun h => by rw [h] at hmem; cases hmem
  refine ⟨hne, ?_⟩
  have hle := minI_le hmem
  have hin := minI_mem hne
  generalize minI (candD S i) = q at hle hin ⊢
  unfold candD at hin
  rw [hi1] at hin
  obtain ⟨m, hm, rfl⟩ := List.mem_map.mp hin
  obtain ⟨hm1, hm2⟩ := List.mem_filter.mp hm
  have hm1 := List.mem_range.mp hm1
  have hf := (able_feas H m m (Nat.le_refl _) (by omega)).mp hm2
  obtain ⟨b1, b2⟩ := O.best _ hf (among_asc m) fun r hr => ⟨(mem_among hr).1, among_lo hi hm1 hr⟩
  have hlen := M.perm.length_eq
  have htot := tot_perm (S := S) M.perm
  have hp : pairI S m = (-((amongD m).length : Int), S.st + tot S (amongD m)) := rfl
  rw [hp] at hle ⊢
  have ht : (RK.1.map S.sz).sum = tot S RK.1 := rfl
  rw [ht] at hle ⊢
  generalize amongD m = T at hle b1 b2 ⊢
  unfold ltP at hle
  simp only at hle
  have e1 : T.length = RK.1.length := by omega
  have e2 : RK.2.take T.length = RK.2 := List.take_of_length_le (by omega)
  rw [e2] at b2
  refine Prod.ext ?_ ?_
  · show -(T.length : Int) = -(RK.1.length : Int)
    omega
  · show S.st + tot S T = S.st + tot S RK.1
    omega
end Mine
set_option maxRecDepth 100000
set_option linter.all false
namespace Mine
open PySem PySem.Spec PySem.Calls PyProof.Rows PySem.W
theorem tw_all {g : Nat → Bool} : ∀ {l : List Nat}, (l.takeWhile g).length = l.length → l.all g = true
  | [], _ => rfl
  | a :: r, h => by
    rw [List.takeWhile_cons] at h
    cases ha : g a with
    | true =>
      rw [ha, if_pos rfl] at h
      rw [List.all_cons, ha, tw_all (by simpa using h)]; rfl
    | false => rw [ha, if_neg (by decide)] at h; simp at h
theorem all_tw {g : Nat → Bool} : ∀ {l : List Nat}, l.all g = true → l.takeWhile g = l
  | [], _ => rfl
  | a :: r, h => by
    rw [List.all_cons, Bool.and_eq_true] at h
    rw [List.takeWhile_cons, if_pos h.1, all_tw h.2]
theorem tw_self (g : Nat → Bool) : ∀ l : List Nat, (l.takeWhile g).all g = true
  | [] => rfl
  | a :: r => by
    rw [List.takeWhile_cons]
    cases ha : g a with
    | true => rw [if_pos rfl, List.all_cons, ha, tw_self g r]; rfl
    | false => rw [if_neg (by decide)]; rfl
theorem tw_drop (g : Nat → Bool) : ∀ l : List Nat, l.takeWhile g ++ l.drop (l.takeWhile g).length = l
  | [] => rfl
  | a :: r => by
    rw [List.takeWhile_cons]
    cases ha : g a with
    | true => rw [if_pos rfl]; simp [tw_drop g r]
    | false => rw [if_neg (by decide)]; rfl
theorem strip_iff (g : Nat → Bool) (X : List Nat) : (Txt.stripBy g true true (mkS X) == "") = X.all g := by
  have e0 : ("" : Str) = mkS [] := by decide +kernel
  rw [PyProof.Rows.stripBy_eq, e0]
  have e1 : stripLo g true (mkS X) = (X.takeWhile g).length := rfl
  have e2 : ∀ lo, stripHi g true (mkS X) lo = X.length - ((X.drop lo).reverse.takeWhile g).length := fun lo => by
    show (mkS X).length - _ = _
    rw [mkS_len]; rfl
  rw [e1, e2]
  have e3 : ∀ lo hi, Builtin.Str.strSub (mkS X) lo hi = mkS ((X.drop lo).take (hi - lo)) := fun lo hi => by
    show Str.mk _ = Str.mk _
    simp [mkS, List.extract_eq_take_drop]
  rw [e3, mkS_beq]
  have hd := tw_drop g X
  have hs := tw_self g X
  generalize hlo : (X.takeWhile g).length = lo at hd ⊢
  have hle : lo ≤ X.length := by rw [← hlo]; exact (List.takeWhile_sublist g).length_le
  have hr : ((X.drop lo).reverse.takeWhile g).length ≤ X.length - lo := by
    have := (List.takeWhile_sublist (l := (X.drop lo).reverse) g).length_le
    rw [List.length_reverse, List.length_drop] at this
    exact this
  rw [Bool.eq_iff_iff, decide_eq_true_iff]
  constructor
  · intro h
    have hl := congrArg List.length h
    rw [List.length_take, List.length_drop, List.length_nil] at hl
    have ha : ((X.drop lo).reverse.takeWhile g).length = (X.drop lo).reverse.length := by rw [List.length_reverse, List.length_drop]; omega
    have := tw_all ha
    rw [List.all_reverse] at this
    rw [← hd, List.all_append, hs, this]; rfl
  · intro h
    have : lo = X.length := by rw [← hlo, all_tw h]
    rw [this]
    simp
theorem crlf_has {c : Nat} (h : okSign c) : (Str.ofString "\r\n").cps.contains c = Unicode.isSpace c := by
  unfold okSign at h
  simp at h
  have e : (Str.ofString "\r\n").cps = #[13, 10] := by decide +kernel
  rw [e]
  rcases h with rfl | rfl | rfl | rfl | rfl <;> decide +kernel
theorem all_congr' {p q : Nat → Bool} : ∀ {l : List Nat}, (∀ c ∈ l, p c = q c) → l.all p = l.all q
  | [], _ => rfl
  | a :: r, h => by rw [List.all_cons, List.all_cons, h a (by simp), all_congr' fun c hc => h c (by simp [hc])]
theorem len_flat (S : Six) {Pc Sn} (D : DOk S Pc Sn) : ∀ {R : List Int}, (∀ r ∈ R, r ∈ R6) → (((R.map (snR Sn)).flatten.length : Nat) : Int) = (R.map S.sz).sum
  | [], _ => rfl
  | r :: R, h => by
    have ih := len_flat S D (R := R) fun x hx => h x (List.mem_cons_of_mem _ hx)
    have := D.sz r (h r (by simp))
    rw [List.map_cons, List.flatten_cons, List.length_append, List.map_cons, List.sum_cons, ← ih, this]
    omega
theorem ws_ok {S : Six} {Pc Sn} (D : DOk S Pc Sn) (hc : ∀ r ∈ R6, ∀ c ∈ snR Sn r, okSign c) : wsOk S Pc Sn := fun R hR => by
  unfold onlyws whiteB
  rw [texts_eq D hR, lenOf_ts D hR]
  have e : R.map (fun r => mkS (snR Sn r)) = (R.map (snR Sn)).map mkS := by rw [List.map_map]; rfl
  rw [e, join_mkS]
  have hl := len_flat S D hR
  have hX : ∀ c ∈ (R.map (snR Sn)).flatten, okSign c := fun c hc' => by
    obtain ⟨l, hl, hcl⟩ := List.mem_flatten.mp hc'
    obtain ⟨r, hr, rfl⟩ := List.mem_map.mp hl
    exact hc r (hR r hr) c hcl
  generalize (R.map (snR Sn)).flatten = X at hl hX ⊢
  cases hst : S.st == 0 with
  | false => rfl
  | true =>
    have h0 : S.st = 0 := by simpa using hst
    unfold Txt.stripChars
    rw [strip_iff, h0, ← hl, Int.zero_add]
    rw [all_congr' fun c hc => crlf_has (hX c hc)]
    show (true && (!(((X.length : Nat) : Int) != 0) || (decide ((mkS X).length > 0) && X.toArray.all Unicode.isSpace))) = (true && X.all Unicode.isSpace)
    rw [mkS_len, List.all_toArray]
    cases X with
    | nil => rfl
    | cons a r =>
      have : (((a :: r).length : Nat) : Int) != 0 := by simp; omega
      rw [this]
      simp
/-! ## the data from the mails -/
noncomputable def sixOf (st : Int) (P : List Mail) : Six := ⟨st, sizesOf P, P.map Mail.due⟩
theorem d_ok {P : List Mail} (hP6 : P.length = 6) (hok : ∀ m ∈ P, m.Ok) {st : Int} (hst : 0 ≤ st ∧ st ≤ 3) : DOk (sixOf st P) (P.map pieceOf) (sentsOf P) := by
  have at' : ∀ r ∈ R6, ∃ m ∈ P, pcR (P.map pieceOf) r = pieceOf m ∧ snR (sentsOf P) r = sentP m.text ∧ (sixOf st P).sz r = ((sentP m.text).length : Int) := fun r hr => by
    obtain ⟨n, hn, rfl⟩ := R6_mem hr
    have hnP : n < P.length := by omega
    exact ⟨P[n], List.getElem_mem hnP, by simp [pcR, hnP], by simp [snR, sentsOf, hnP], by simp [Six.sz, sixOf, sizesOf, sentsOf, hnP]⟩
  refine ⟨⟨by simp [sixOf, sizesOf, sentsOf, hP6], by simp [sixOf, hP6]⟩, by simp [hP6], by simp [sentsOf, hP6], hst, fun r hr => ?_, fun r hr => ?_, fun r hr => ?_, fun r hr => ?_⟩ <;> obtain ⟨m, hm, e1, e2, e3⟩ := at' r hr
  · rw [e1, e2]
    unfold pieceOf
    rw [mkS_append, List.take_append_drop]
  · rw [e3, e2]
  · rw [e2]
    have := (hok m hm).quot.2.2
    omega
  · rw [e1]
    have hc := sentP_ok (hok m hm).codes.1
    exact ⟨strOk_mkS fun c h => okSign_lt (hc c (List.mem_of_mem_take h)), strOk_mkS fun c h => okSign_lt (hc c (List.mem_of_mem_drop h))⟩
theorem s_ok {P : List Mail} (hP6 : P.length = 6) (hs : SortedM P) {st : Int} : SOk (sixOf st P) := by
  refine ⟨fun r hr => ?_, fun r hr q hq hrq => ?_⟩
  · obtain ⟨n, hn, rfl⟩ := R6_mem hr
    have hnP : n < P.length := by omega
    simp [Six.sz, sixOf, sizesOf, sentsOf, hnP]
  · obtain ⟨n, hn, rfl⟩ := R6_mem hr
    obtain ⟨k, hk, rfl⟩ := R6_mem hq
    have hnP : n < P.length := by omega
    have hkP : k < P.length := by omega
    have e1 : (sixOf st P).du n = (P[n]).due := by simp [Six.du, sixOf, hnP]
    have e2 : (sixOf st P).du k = (P[k]).due := by simp [Six.du, sixOf, hkP]
    rw [e1, e2]
    by_cases h : n = k
    · subst h; exact Int.le_refl _
    · exact List.pairwise_iff_getElem.mp hs n k hnP hkP (by omega)
theorem sn_ok {P : List Mail} (hP6 : P.length = 6) (hok : ∀ m ∈ P, m.Ok) : ∀ r ∈ R6, ∀ c ∈ snR (sentsOf P) r, okSign c := fun r hr c hc => by
  obtain ⟨n, hn, rfl⟩ := R6_mem hr
  have hnP : n < P.length := by omega
  have e : snR (sentsOf P) n = sentP (P[n]).text := by simp [snR, sentsOf, hnP]
  rw [e] at hc
  exact sentP_ok (hok _ (List.getElem_mem hnP)).codes.1 c hc
end Mine
set_option maxRecDepth 100000
set_option linter.all false
namespace Mine
open PySem PySem.Spec PySem.Calls PyProof.Rows PySem.W
section
variable {w : World} {A : Around} {s : Shared} {E : Value → Shared → Prop} {Q : Flow → Shared → Prop}
variable {h0 : Heap} {L : Addr} {hb : Heap} {pm : Value}
theorem startOf_ok (told : List Int) : 0 ≤ startOf told ∧ startOf told ≤ 3 := by
  unfold startOf
  rw [Int.fmod_eq_emod_of_nonneg _ (by decide)]
  omega
theorem told_len {script : List Int} (h : script.length ≤ 63) : (toldOf script).length ≤ 60 := by
  unfold toldOf
  rw [List.length_map, List.length_take]
  omega
/- the whole body of the law -/
theorem law_body {script : List Int} (hA : Room 6 A) (hfr : A.frames = some [lenv pm L]) (hz : script.length ≤ 63) (R1 : ReAt h0 163 code1) (R2 : ReAt h0 168 code2) (hbare : AllBare s.gens)
    (SL : LS h0 L (lcl L) (XS L (lcl L) []) [] none) (g : LF h0 L (lcl L) (XS L (lcl L) []) hb [("script", .d (.list (script.map .int)))] [] none s.heap)
    (next : ∀ s', OldK h0 s'.heap → s'.os = s.os → AllBare s'.gens → Q (.ret (.bool true)) s') :
    wpAny (model thePr w) A (execs lawB (lenv pm L)) Q E s := by
  refine @walk0 w A s E Q h0 L _ hb [] none pm script hA SL hz g fun h1 tk1 g1 => ?_
  refine @walk1 w A { s with heap := h1, toks := tk1 } E Q h0 L _ hb [] none pm _ hA SL (told_len hz) g1 fun h2 tk2 g2 => ?_
  refine @walk3 w A { s with heap := h2, toks := tk2 } E Q h0 L hb pm _ hA (told_len hz) SL g2 hbare fun s3 hb3 P hP6 hs hok g3 ho3 hba3 => ?_
  have hst := startOf_ok (toldOf script)
  generalize startOf (toldOf script) = st at hst g3
  obtain ⟨k, rfl⟩ : ∃ k : Nat, st = k := ⟨st.toNat, by omega⟩
  have D := d_ok hP6 hok hst
  have H := s_ok hP6 hs (st := (k : Int))
  refine @walk5 w A s3 E Q h0 L _ pm _ _ _ _ _ hA hfr SL hP6 hok hst.1 g3 fun h4 tk4 g4 => ?_
  refine @walk6 w A { s3 with heap := h4, toks := tk4 } E Q h0 L _ pm _ _ _ _ _ hA SL hP6 g4 fun h5 tk5 g5 => ?_
  refine @walk7 w A { s3 with heap := h5, toks := tk5 } E Q h0 L _ pm _ _ _ _ _ hA SL hP6 hs (by omega) g5 fun h6 tk6 g6 => ?_
  refine @walk8 w A { s3 with heap := h6, toks := tk6 } E Q h0 L _ pm _ _ _ _ _ hA SL R1 R2 hP6 hok g6 fun h7 tk7 g7 => ?_
  refine @walk10 w A { s3 with heap := h7, toks := tk7 } E Q h0 L _ pm _ _ _ _ _ hA SL hP6 hok g7 fun h8 tk8 g8 => ?_
  have ePc : P.map (fun m => prD (pieceOf m)) = (P.map pieceOf).map prD := by rw [List.map_map]; rfl
  rw [ePc] at g8
  refine @walk12 w A { s3 with heap := h8, toks := tk8 } E Q h0 L _ pm (sixOf k P) (pcsD (P.map pieceOf)) (sntD (sentsOf P)) D.six hA SL g8 hba3 fun s9 hb9 g9 ho9 hba9 => ?_
  refine @walk14 w A s9 E Q h0 L _ pm (sixOf k P) _ _ hA SL g9 fun h10 tk10 hb10 p ka hne S10 g10 => ?_
  refine @walk16 w A { s9 with heap := h10, toks := tk10 } E Q h0 L _ pm (sixOf k P) _ _ p ka D hA (min_ok H) hba9 S10 g10 fun s11 hb11 g11 ho11 hba11 => ?_
  have M := mh_inv (sixOf k P) 6
  have ml := mh_len (sixOf k P) 6
  generalize mh (sixOf k P) 6 = RK at M ml g11
  have S11 : LS h0 L (lcl L) (XS L (lcl L) [ka, p]) [(ka, kD (sixOf k P) RK.2)] (some (p, (sixOf k P).st, tsD (P.map pieceOf) RK.1)) := (S10.reMs (ms' := [(ka, kD (sixOf k P) RK.2)]) rfl).rePl
  refine @walk17 w A s11 E Q h0 L _ pm (sixOf k P) _ _ p ka RK.1 RK.2 D hA (ws_ok D (sn_ok hP6 hok)) (fun r hr => by have := M.lt r hr; exact R6_of this.1 (by omega)) ml hba11 S11 g11 fun s12 hb12 g12 ho12 hba12 => ?_
  refine @walk18 w A s12 E Q h0 L _ pm (sixOf k P) _ _ p ka RK.1 RK.2 _ hA D.st hba12 S11.rePl g12 fun s13 g13 ho13 hba13 => ?_
  exact @next s13 g13.old (ho13.trans (ho12.trans (ho11.trans (ho9.trans ho3)))) hba13
end
end Mine
set_option maxRecDepth 100000
set_option linter.all false
namespace Mine
open PySem PySem.Spec PySem.Calls PyProof.Rows PySem.W
theorem lcl_hi {L : Addr} {x : Str} {c : Addr} (h : (lcl L).lookup x = some c) : L < c := by
  have := PySem.mem_of_lookup h
  simp only [List.mem_cons, List.not_mem_nil, or_false, Prod.mk.injEq] at this
  rcases this with ⟨_, rfl⟩ | ⟨_, rfl⟩ | ⟨_, rfl⟩ | ⟨_, rfl⟩ | ⟨_, rfl⟩ | ⟨_, rfl⟩ | ⟨_, rfl⟩ | ⟨_, rfl⟩ | ⟨_, rfl⟩ | ⟨_, rfl⟩ | ⟨_, rfl⟩ | ⟨_, rfl⟩ | ⟨_, rfl⟩ | ⟨_, rfl⟩ <;> exact Nat.lt_add_of_pos_right (by decide)
theorem apart_key : ∀ {l : List (Str × Addr)}, l.Pairwise (fun a b => a.2 ≠ b.2) → ∀ {x y : Str} {c : Addr}, (x, c) ∈ l → (y, c) ∈ l → x = y := by
  intro l hl
  induction hl with
  | nil => intro x y c h; cases h
  | cons ha _ ih =>
    intro x y c h1 h2
    rcases List.mem_cons.mp h1 with h1 | h1 <;> rcases List.mem_cons.mp h2 with h2 | h2
    · rw [← h2] at h1; exact (Prod.mk.inj h1).1
    · exact absurd (by rw [← h1]) (ha _ h2)
    · exact absurd (by rw [← h2]) (ha _ h1)
    · exact ih h1 h2
section
variable {w : World} {s : Shared} {E : Value → Shared → Prop} {Q : Value → Shared → Prop}
theorem room_law (env : Env) : Room 6 (callerA.deeper env) := ⟨by show callerA.depth + 1 + 6 < recursionLimit; decide, by show callerA.units + 3 + 8 * 6 + 64 < cLine; decide, rfl⟩
/- law(script) -/
theorem law_call {script : List Int} {a : Addr} {as : List Addr} (hz : script.length ≤ 63) (B : Base s.heap) (D : Defs s.heap) (T : Tabs s.heap) (T0 : Tabs0 s.heap) (R1 : ReAt s.heap 163 code1) (R2 : ReAt s.heap 168 code2) (hbare : AllBare s.gens) (rd : Rds s.heap (.ref a) (.list (script.map .int)) as)
    (hQ : ∀ s', OldK s.heap s'.heap → s'.os = s.os → AllBare s'.gens → Q (.bool true) s') : wpAny (model thePr w) callerA (PySem.call (.ref 201) [.ref a]) Q E s := by
  obtain ⟨⟨o, pm, ho, hd⟩, hcd⟩ := id B.law
  refine wpAny_call (codeAny_call_cells (fd := fdOf "law" (topSt 19) .none .none pm 200) (body := lawB) (binds := [("script", .ref a)]) (by decide) ho hd B.lim hcd.rec' rfl rfl rfl ?_ (fun s₁ x => ?_) rfl rfl rfl)
  · intro x hx
    rw [List.mem_singleton.mp hx]
    exact .inl rfl
  obtain ⟨h1, tk1, rfl, k1⟩ := x.done
  have k1 : Kf s.heap h1 := k1
  have n1 : h1.Ns s.heap.objs.size _ := x.toInCall.ns
  have hcells : ∀ y c, (lcl s.heap.objs.size).lookup y = some c → ∃ v, h1.IsCell c v := fun y c hc => ⟨_, x.cell y c hc⟩
  have L0 : LS0 s.heap s.heap.objs.size (lcl s.heap.objs.size) := ⟨B, D, T0, fresh_size _, fun y c hc => fresh_ge (Nat.le_of_lt (lcl_hi hc)), fun y c hc => lcl_hi hc, fun y z c h1 h2 => apart_key (l := lcl s.heap.objs.size) x.apart (PySem.mem_of_lookup h1) (PySem.mem_of_lookup h2)⟩
  have SL := L0.ls (ms := []) (pl := none) (as := []) (fun q h => nomatch h) List.nodup_nil (fun q h => nomatch h)
  have g : LF s.heap s.heap.objs.size (lcl s.heap.objs.size) (XS s.heap.objs.size (lcl s.heap.objs.size) []) h1 [("script", .d (.list (script.map .int)))] [] none h1 := {
    kp := .of_keep k1
    old := .of_keep k1
    tabs := T.kf k1
    kx := fun _ _ _ e => e
    fr := ⟨_, n1, (fun y e he => by
      by_cases hy : y = "script"
      · subst hy
        have he : e = .d (.list (script.map .int)) := by simpa using he.symm
        subst he
        exact ⟨.ref a, rfl, as, rds_kp (.of_keep k1) rd, fun _ _ _ h => nomatch h⟩
      · have : (y == ("script" : Str)) = false := by simpa using hy
        rw [List.lookup_cons, this] at he
        cases he), fun q hq => nomatch hq⟩
    cells := hcells
    muts := fun q h => nomatch h
    pile := fun q h => nomatch h }
  exact law_body (s := { s with heap := h1, toks := tk1 }) (room_law _) rfl hz R1 R2 hbare SL g fun s' h1 h2 h3 => hQ s' h1 h2 h3
end
end Mine
set_option maxRecDepth 100000
set_option linter.all false
namespace Mine
open PySem PySem.Spec PySem.Calls PyProof.Rows PySem.W
noncomputable def esOf (o : Obj) : Array DictEntry := match o.data with | .dict es _ => es | _ => #[]
noncomputable def strKey (e : DictEntry) : Bool := match e.key with | .str .. => true | _ => false
theorem strKey_iff {e : DictEntry} (h : strKey e = true) : ∃ n t, e.key = .str n t := by
  unfold strKey at h; split at h
  · exact ⟨_, _, by assumption⟩
  · cases h
section
variable {h : Heap} {a : Addr} {m : Str → Option Value} {o : Obj}
theorem ns_es (ho : h.get? a = some o) (n : h.Ns a m) (x : Str) : m x = nsFind (esOf o) x := by
  obtain ⟨o', es', ep', ho', hd', _, hr⟩ := n
  rw [ho] at ho'; cases ho'
  rw [esOf, hd']
  exact (hr x).symm
theorem ns_of {ep} (ho : h.get? a = some o) (hd : o.data = .dict (esOf o) ep) (hk : (esOf o).toList.all strKey = true) : h.Ns a (nsFind (esOf o)) :=
  ⟨o, _, ep, ho, hd, fun e he => strKey_iff (List.all_eq_true.mp hk e (Array.mem_toList_iff.mpr he)), fun _ => rfl⟩
theorem tab_some (ho : h.get? a = some o) (n : h.Ns a m) {l : List (Str × Value)} (hl : l.map (fun p => nsFind (esOf o) p.1) = l.map fun p => some p.2) {x : Str} {v : Value} (e : l.lookup x = some v) : m x = some v :=
  (ns_es ho n x).trans (List.map_inj_left.mp hl (x, v) (PySem.mem_of_lookup e))
theorem tab_none (ho : h.get? a = some o) (n : h.Ns a m) {l : List (Str × Value)} (hl : l.map (fun p => nsFind (esOf o) p.1) = l.map fun _ => none) {x : Str} {v : Value} (e : l.lookup x = some v) : m x = none :=
  (ns_es ho n x).trans (List.map_inj_left.mp hl (x, v) (PySem.mem_of_lookup e))
theorem tab_addr {l : List (Str × Addr)} (hl : l.map (fun p => nsFind (esOf o) p.1) = l.map fun p => some (.ref p.2)) (x : Str) (v : Addr) (e : l.lookup x = some v) : nsFind (esOf o) x = some (.ref v) :=
  List.map_inj_left.mp hl (x, v) (PySem.mem_of_lookup e)
theorem tab_free {l : List Str} (hl : l.map (nsFind (esOf o)) = l.map fun _ => none) (x : Str) (e : x ∈ l) : nsFind (esOf o) x = none := List.map_inj_left.mp hl x e
end
theorem strKeys_one {e : DictEntry} (h : ∃ n t, e.key = .str n t) : StrKeys #[e] := fun x hx => by
  have : x = e := by simpa using hx
  rw [this]; exact h
theorem rdsAll_ints {h : Heap} {vs : List Value} {ns : List Int} {as : List Addr} (r : ReadsAll h vs (ns.map .int) as) : RdsAll h vs (ns.map .int) [] := by
  induction ns generalizing vs as with
  | nil => cases r; exact .nil
  | cons n ns ih =>
    cases r with | cons r1 r2 =>
    cases r1
    exact .cons (as := []) (bs := []) (.int _ _) (ih r2)
theorem rds_ints {h : Heap} {a : Addr} {ns : List Int} {as : List Addr} {vs : Array Value} {n : Nat} (ho : h.get? a = some (listO vs n)) (r : Reads h (.ref a) (.list (ns.map .int)) as) : ∃ bs, Rds h (.ref a) (.list (ns.map .int)) bs := by
  cases r with
  | list ho' hc hd r =>
    rw [ho] at ho'; cases ho'
    cases hd
    exact ⟨_, .list ho (rdsAll_ints r)⟩
theorem law_end {w : World} {s : Shared} {E : Value → Shared → Prop} {Q : Value → Shared → Prop} {script : List Int} {a : Addr} {as : List Addr} (hz : ¬ ((63 : Nat) : Int) < (script.length : Int)) (ho : ∃ vs n, s.heap.get? a = some (listO vs n)) (rd : Reads s.heap (.ref a) (.list (script.map .int)) as) (hg : s.gens = #[]) (B : Base s.heap) (D : Defs s.heap) (T : Tabs s.heap) (T0 : Tabs0 s.heap) (R1 : ReAt s.heap 163 code1) (R2 : ReAt s.heap 168 code2)
    (hQ : ∀ s', OldK s.heap s'.heap → s'.os = s.os → AllBare s'.gens → Q (.bool true) s') : wpAny (model thePr w) callerA (PySem.call (.ref 201) [.ref a]) Q E s := by
  obtain ⟨vs, n, ho⟩ := ho
  obtain ⟨bs, rd⟩ := rds_ints ho rd
  exact law_call (by omega) B D T T0 R1 R2 (by rw [hg]; intro g hg; simp at hg) rd hQ
end Mine
open PySem PySem.W PySem.W.X PyProof.Rows PySem.W.ZRun
/- what the row says of its text, look by look -/
set_option maxRecDepth 100000 in
set_option maxHeartbeats 0 in
theorem Mine.law_said : PySem.Challenge.rw_rs0096_01.wellSaid = true := by
  refine look_both (look_both (look_both (look_both (look_both (look_both (look_both (look_both (look_both (look_both (look_both (look_both (look_both (look_both (look_both (look_both (look_both (look_both ?_ ?_) ?_) ?_) ?_) ?_) ?_) ?_) ?_) ?_) ?_) ?_) ?_) ?_) ?_) ?_) ?_) ?_) ?_
  · refine look_both (look_both ?_ ?_) ?_
    · refine look_both (look_both (look_both (look_both (look_both (look_both (look_both (look_both (look_both (look_both (look_both (look_both ?_ ?_) ?_) ?_) ?_) ?_) ?_) ?_) ?_) ?_) ?_) ?_) ?_
      · refine look_both (look_both (look_both (look_both (look_both ?_ ?_) ?_) ?_) ?_) ?_ <;> decide +kernel
      all_goals decide +kernel
    all_goals decide +kernel
  all_goals decide +kernel
set_option maxRecDepth 100000 in
set_option maxHeartbeats 0 in
set_option pp.maxSteps 2000 in
theorem PySem.Challenge.cw_rs0096_01_holds : PySem.Challenge.rw_rs0096_01.Holds := by
  w_on; refine holds_law Mine.law_said fun said => ?_; z_head; (case hw => w_witness2)
  k_fill
  intro w s₀ s₁ mg mb G y fa o pm cd doc dV kV ho hd hcd hD hmg hg args vals as L hpre hlay hrd hwl hlo
  z_open y L KX ZH ZN ZT
  refine Ground.open G ?_
  intro T B D TE TW
  wrow_args hpre hlay hrd hwl hlo
  obtain ⟨hat, hsz⟩ := script_at L
  have htk := script_toks L ZT
  rw [ZN] at hat hsz
  subst hat
  x_fa T KX hmg
  all_lens
  have KX' := KX
  have Tg := T.g
  have Tb := T.b
  have gl_some : ∀ x v, Mine.glob.lookup x = some v → mg x = some v := fun x v hx => Mine.tab_some (KX 3 _ rfl) Tg (by kernel_rfl) hx
  have gl_none : ∀ x v, Mine.blt.lookup x = some v → mg x = none := fun x v hx => Mine.tab_none (KX 3 _ rfl) Tg (by kernel_rfl) hx
  have bl_some : ∀ x v, Mine.blt.lookup x = some v → mb x = some v := fun x v hx => Mine.tab_some (KX 0 _ rfl) Tb (by kernel_rfl) hx
  have gl_str : (∃ t, mg "CRLF" = some (.str "\r\n" t)) ∧ (∃ t, mg "EMPTYSTRING" = some (.str "" t)) := by
    exact ⟨⟨_, (Mine.ns_es (KX 3 _ rfl) Tg "CRLF").trans rfl⟩, ⟨_, (Mine.ns_es (KX 3 _ rfl) Tg "EMPTYSTRING").trans rfl⟩⟩
  have B1 : Mine.Base s₁.heap := {
    lim := T.nolimit
    gl := ⟨mg, Tg, gl_some, gl_none, gl_str⟩
    bl := ⟨mb, Tb, bl_some⟩
    insr := ⟨⟨_, _, KX 47 _ rfl, rfl⟩, ⟨_, _, _, KX 46 _ rfl, rfl, rfl, rfl⟩⟩
    bisr := ⟨⟨_, _, KX 56 _ rfl, rfl⟩, ⟨_, _, _, KX 55 _ rfl, rfl, rfl, rfl⟩⟩
    insl := ⟨⟨_, _, KX 65 _ rfl, rfl⟩, ⟨_, _, _, KX 64 _ rfl, rfl, rfl, rfl⟩⟩
    bisl := ⟨⟨_, _, KX 74 _ rfl, rfl⟩, ⟨_, _, _, KX 73 _ rfl, rfl, rfl, rfl⟩⟩
    quot := ⟨⟨_, _, KX 175 _ rfl, rfl⟩, ⟨_, _, _, KX 174 _ rfl, rfl, rfl, rfl⟩⟩
    frst := ⟨⟨_, _, KX 182 _ rfl, rfl⟩, ⟨_, _, _, KX 181 _ rfl, rfl, rfl, rfl⟩⟩
    sent := ⟨⟨_, _, KX 189 _ rfl, rfl⟩, ⟨_, _, _, KX 188 _ rfl, rfl, rfl, rfl⟩⟩
    rfsd := ⟨⟨_, _, KX 196 _ rfl, rfl⟩, ⟨_, _, _, KX 195 _ rfl, rfl, rfl, rfl⟩⟩
    law := ⟨⟨_, _, KX 201 _ rfl, rfl⟩, ⟨_, _, _, KX 200 _ rfl, rfl, rfl, rfl⟩⟩
    dfl := fun a ha => by rcases ha with rfl | rfl | rfl | rfl <;> exact ⟨_, KX _ _ rfl⟩
    kwd := fun a ha => by
      rcases ha with rfl | rfl | rfl | rfl <;> exact ⟨_, ⟨_, _, _, KX _ _ rfl, rfl, Mine.strKeys_one ⟨_, _, rfl⟩, fun _ => rfl⟩, rfl⟩ }
  have T0 : Mine.Tabs0 s₁.heap := ⟨⟨_, ⟨_, _, KX 120 _ rfl, rfl, rfl, rfl⟩, KX 116 _ rfl⟩, ⟨_, ⟨_, _, KX 127 _ rfl, rfl, rfl, rfl⟩, KX 123 _ rfl⟩⟩
  have T1 : Mine.Tabs s₁.heap := {
    l := ⟨_, ⟨_, _, _, _, _, _, _, _, _, _, KX 120 _ rfl, rfl, rfl, rfl, rfl, rfl, rfl, KX 116 _ rfl, rfl, trivial, by decide⟩, ⟨_, _, KX 120 _ rfl, rfl, rfl, rfl⟩, KX 116 _ rfl⟩
    s := ⟨_, ⟨_, _, _, _, _, _, _, _, _, _, KX 127 _ rfl, rfl, rfl, rfl, rfl, rfl, rfl, KX 123 _ rfl, rfl, trivial, by decide⟩, ⟨_, _, KX 127 _ rfl, rfl, rfl, rfl⟩, KX 123 _ rfl⟩ }
  have R1 : Mine.ReAt s₁.heap 163 Mine.code1 := ⟨_, _, _, _, _, _, KX 163 _ rfl, rfl, rfl, rfl, rfl, rfl, rfl, KX _ _ rfl, rfl, rfl, by decide +kernel⟩
  have R2 : Mine.ReAt s₁.heap 168 Mine.code2 := ⟨_, _, _, _, _, _, KX 168 _ rfl, rfl, rfl, rfl, rfl, rfl, rfl, KX _ _ rfl, rfl, rfl, by decide +kernel⟩
  have A1 : Mine.AccAt s₁.heap := {
    cls := ⟨_, _, _, _, _, _, _, _, _, _, _, _, KX 154 _ rfl⟩
    ns := ⟨_, Mine.ns_of (KX 153 _ rfl) rfl (by kernel_rfl), Mine.tab_addr (by kernel_rfl), Mine.tab_free (by kernel_rfl)⟩
    cell := ⟨_, KX 78 _ rfl, rfl⟩
    qn := ⟨_, _, KX 154 _ rfl, rfl, rfl⟩ }
  obtain ⟨mc, nc, _⟩ := T.nodigits
  have O1 : Mine.OpqAt s₁.heap := ⟨mc, nc, (Mine.ns_es (KX cStatics _ rfl) nc "thirdparty.any").trans (by kernel_rfl)⟩
  have D1 : Mine.Defs s₁.heap := {
    acc := A1
    init := ⟨⟨_, _, _, KX 91 _ rfl, rfl, rfl⟩, ⟨_, _, _, KX 90 _ rfl, rfl, rfl, rfl⟩⟩
    push := ⟨⟨_, _, _, KX 98 _ rfl, rfl, rfl⟩, ⟨_, _, _, KX 97 _ rfl, rfl, rfl, rfl⟩⟩
    popf := ⟨⟨_, _, _, KX 106 _ rfl, rfl, rfl⟩, ⟨_, _, _, KX 105 _ rfl, rfl, rfl, rfl⟩⟩
    pop := ⟨⟨_, _, _, KX 114 _ rfl, rfl, rfl⟩, ⟨_, _, _, KX 113 _ rfl, rfl, rfl, rfl⟩⟩
    len := ⟨⟨_, _, _, KX 121 _ rfl, rfl, rfl⟩, ⟨_, _, _, KX 120 _ rfl, rfl, rfl, rfl⟩⟩
    str := ⟨⟨_, _, _, KX 128 _ rfl, rfl, rfl⟩, ⟨_, _, _, KX 127 _ rfl, rfl, rfl, rfl⟩⟩
    only := ⟨⟨_, _, _, KX 143 _ rfl, rfl, rfl⟩, ⟨_, _, _, KX 142 _ rfl, rfl, rfl, rfl⟩⟩
    part := ⟨⟨_, _, _, KX 151 _ rfl, rfl, rfl⟩, ⟨_, _, _, KX 150 _ rfl, rfl, rfl, rfl⟩⟩
    d83 := ⟨_, KX 83 _ rfl⟩
    d99 := ⟨_, KX 99 _ rfl⟩
    c90 := ⟨_, _, _, KX 90 _ rfl, rfl, rfl, rfl⟩
    c113 := ⟨_, _, _, KX 113 _ rfl, rfl, rfl, rfl⟩
    c150 := ⟨_, _, _, KX 150 _ rfl, rfl, rfl, rfl⟩
    opq := O1
    bm := ⟨mg, _, _, Tg, (Mine.ns_es (KX 3 _ rfl) Tg "__builtins__").trans rfl, by decide, KX _ _ rfl, rfl, rfl, rfl⟩ }
  show wpAny _ callerA (PySem.call (.ref 201) [.ref 202]) _ _ s₁
  refine Mine.law_end (by assumption) ⟨_, _, script_obj L (by assumption)⟩ (by assumption) hg B1 D1 T1 T0 R1 R2 fun s' h1 h2 h3 => ?_
  exact ⟨.inl ⟨.bool true, .bool true, [], rfl, fun _ => rfl, .bool true, by kernel_rfl, fun _ => ⟨List.nodup_nil, fun _ h => nomatch h⟩⟩, h1, h2, h3⟩
