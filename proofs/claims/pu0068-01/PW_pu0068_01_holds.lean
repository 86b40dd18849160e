import PyProof.Rows.All
import Wide.All
import OpenK.AllK
import Wide.FinOn
import Lean
import PySem.Challenge.RW_pu0068_01
set_option Elab.async false
set_option bootstrap.genMatcherCode false
set_option genSizeOf false
set_option genInjectivity false
set_option genCtorIdx false
set_option linter.all false
section
open PySem PySem.W PyProof.Rows
set_option Elab.async false
namespace Mine

theorem runs_size {M : Model} {Γ : Ctx} {p : Pos} {t : Sem Fin} {fs : List Frame} {s s' : Shared} {e : End} (h : Runs M Γ p t fs s e s') : s.heap.objs.size ≤ s'.heap.objs.size := by
  induction h <;> (try simp only [Shared.setGen, Heap.size_push, Heap.size_after_update] at *) <;> omega
theorem wakes_size {M : Model} {Γ : Ctx} {p : Pos} {g : Nat} {r : Resume} {s s' : Shared} {res : GenResult} (h : Wakes M Γ p g r s res s') : s.heap.objs.size ≤ s'.heap.objs.size := by
  unfold Wakes at h
  split at h
  · exact h.elim
  · split at h
    · obtain ⟨e₁, s₁, hr, _, _, rfl⟩ := h; exact (runs_size hr : (s.setGen g .running).heap.objs.size ≤ s₁.heap.objs.size)
    · rw [h.2]; exact Nat.le_refl _
    · rw [h.2]; exact Nat.le_refl _
  · obtain ⟨e₁, s₁, hr, _, _, rfl⟩ := h; exact (runs_size hr : (s.setGen g .running).heap.objs.size ≤ s₁.heap.objs.size)
  · rw [h.2]; exact Nat.le_refl _
  · rw [h.2]; exact Nat.le_refl _
theorem wp_size {α : Type} (M : Model) (Γ : Ctx) (n : Nat) (t : Sem α) : ∀ (Q : α → Pos → Shared → Prop) (E : Value → Pos → Shared → Prop) (p : Pos) (s : Shared), n ≤ s.heap.objs.size → Sem.wp M Γ t Q E p s →
    Sem.wp M Γ t (fun a p' s' => n ≤ s'.heap.objs.size ∧ Q a p' s') E p s := by
  induction t with
  | pure a => intro Q E p s hn h; exact ⟨hn, h⟩
  | raise e => intro Q E p s hn h; exact h
  | unsupported | finish | yield | fork | await | register => intro Q E p s _ h; exact h
  | rule _ k ih | «at» _ k ih | loadIfAlive _ k ih | point _ k ih | fresh k ih | ask k ih | os _ _ k ih | handled _ k ih | newGen _ k ih | stack k ih | thread k ih => intro Q E p s hn h; exact ih _ Q E _ _ hn h
  | alloc o k ih => intro Q E p s hn h; exact ih _ Q E p _ (by rw [Heap.size_push]; exact Nat.le_succ_of_le hn) h
  | load a _ k ih | genState a k ih => intro Q E p s hn h; obtain ⟨o, ho, h⟩ := h; exact ⟨o, ho, ih _ Q E p s hn h⟩
  | update a _ f k ih => intro Q E p s hn h; exact ⟨h.1, ih () Q E p _ (by rw [Heap.size_after_update]; exact hn) h.2⟩
  | choose src m k ih => intro Q E p s hn h; exact ⟨h.1, ih _ Q E p _ hn h.2⟩
  | call c hd _ _ k ih => intro Q E p s hn h; obtain ⟨r, s', hr, h⟩ := h; exact ⟨r, s', hr, ih r Q E p s' (Nat.le_trans hn (runs_size hr)) h⟩
  | resume g r _ k ih => intro Q E p s hn h; obtain ⟨res, s', hw, h⟩ := h; exact ⟨res, s', hw, ih res Q E p s' (Nat.le_trans hn (wakes_size hw)) h⟩

set_option genInjectivity true in
set_option genCtorIdx true in
inductive D where
  | none
  | bool (b : Bool)
  | int (i : Int)
  | flt (x : UInt64)
  | str (s : Str)
  | tup (xs : List D)
  | lst (xs : List D)
  | rng (a b : Int)
  | hdr (C : Addr) (xs : List D)
  | ref (a : Addr)
  | typ (n : String)

structure Gh where
  O : List Addr
  τ : Tok → UInt64
  n : Nat

noncomputable def Kp (X : List Addr) (h h' : Heap) : Prop := ∀ b o, b ∉ X → h.get? b = some o → h'.get? b = some o

theorem Kp.refl (X : List Addr) (h : Heap) : Kp X h h := fun _ _ _ e => e
theorem Kp.trans {X : List Addr} {h h' h'' : Heap} (a : Kp X h h') (b : Kp X h' h'') : Kp X h h'' := fun x o hx e => b x o hx (a x o hx e)
theorem Kp.mono {X Y : List Addr} {h h' : Heap} (a : Kp X h h') (s : ∀ b ∈ X, b ∈ Y) : Kp Y h h' := fun x o hx e => a x o (fun m => hx (s x m)) e
theorem Kp.all {X : List Addr} {h h' : Heap} (k : ∀ b o, h.get? b = some o → h'.get? b = some o) : Kp X h h' := fun b o _ e => k b o e
theorem Kp.push (X : List Addr) (h : Heap) (o : Obj) : Kp X h (h.push o) := fun _ _ _ e => Heap.get?_push_of_some o e
theorem Kp.ext {X : List Addr} {h h' : Heap} {a : Addr} (s : Heap.ExtBut a h h') (ha : a ∈ X) : Kp X h h' := fun b o hb e => s b o (fun q => hb (q ▸ ha)) e

noncomputable abbrev tabO (vs : Array Value) : Obj := { cls := .none, data := .fields vs }
noncomputable def NC (h : Heap) (a : Addr) : Prop := ∀ o vs, h.get? a = some o → o.cls = .type "code" → o.data = .fields vs → False
noncomputable def Cd (h h' : Heap) : Prop := ∀ a o vs, h.get? a = some o → o.cls = .type "code" → o.data = .fields vs → h'.get? a = some o
inductive TabOne (h : Heap) (P : Addr) (d : Pos × Str) : Prop
  | mk (c' : Addr) (o : Obj) (vs : Array Value) (t : Tok) (h1 : h.get? P = some (tabO #[rawInt d.1.line, rawInt d.1.col, .ref c'])) (h2 : h.get? c' = some o) (h3 : o.cls = .type "code") (h4 : o.data = .fields vs) (h5 : vs[1]? = some (.str d.2 t)) : TabOne h P d
noncomputable def TQ (tb : List Addr) (dn : Addr → Pos × Str) (h : Heap) : Prop := ∀ P ∈ tb, h.get? P = some (tabO #[]) ∨
  TabOne h P (dn P)
noncomputable def Tg (tb : List Addr) (dn : Addr → Pos × Str) (h h' : Heap) : Prop := TQ tb dn h → TQ tb dn h'
theorem TQ.some {tb : List Addr} {dn : Addr → Pos × Str} {h : Heap} (x : TQ tb dn h) {P : Addr} (hP : P ∈ tb) : ∃ vs, h.get? P = some (tabO vs) := (x P hP).elim (fun e => ⟨_, e⟩) fun ⟨_, _, _, _, e, _, _, _, _⟩ => ⟨_, e⟩
theorem Cd.refl (h : Heap) : Cd h h := fun _ _ _ e _ _ => e
theorem Cd.trans {h h' h'' : Heap} (a : Cd h h') (b : Cd h' h'') : Cd h h'' := fun x o vs e c d => b x o vs (a x o vs e c d) c d
theorem Cd.all {h h' : Heap} (k : ∀ b o, h.get? b = some o → h'.get? b = some o) : Cd h h' := fun x o _ e _ _ => k x o e
theorem Cd.ext {h h' : Heap} {a : Addr} (hs : Heap.ExtBut a h h') (hn : NC h a) : Cd h h' := fun x o vs e c d => hs x o (fun q => hn o vs (q ▸ e) c d) e
theorem Tg.refl {dn : Addr → Pos × Str} (tb : List Addr) (h : Heap) : Tg tb dn h h := id
theorem Tg.trans {tb : List Addr} {dn : Addr → Pos × Str} {h h' h'' : Heap} (a : Tg tb dn h h') (b : Tg tb dn h' h'') : Tg tb dn h h'' := fun x => b (a x)
theorem Tg.keep {tb : List Addr} {dn : Addr → Pos × Str} {h h' : Heap} (k : ∀ P ∈ tb, ∀ o, h.get? P = some o → h'.get? P = some o) (c : Cd h h') : Tg tb dn h h' := fun x P hP =>
  (x P hP).imp (k P hP _) fun ⟨c', o, vs, t, e1, e2, e3, e4, e5⟩ => ⟨c', o, vs, t, k P hP _ e1, c c' o vs e2 e3 e4, e3, e4, e5⟩
theorem Tg.all {tb : List Addr} {dn : Addr → Pos × Str} {h h' : Heap} (k : ∀ b o, h.get? b = some o → h'.get? b = some o) : Tg tb dn h h' := .keep (fun P _ o => k P o) (.all k)
theorem NC.data {h : Heap} {a : Addr} {o : Obj} (e : h.get? a = some o) (d : ∀ vs, o.data ≠ .fields vs) : NC h a := fun o' vs e' _ d' => by
  rw [e] at e'; cases e'; exact d vs d'
theorem NC.cls {h : Heap} {a : Addr} {o : Obj} (e : h.get? a = some o) (d : o.cls ≠ .type "code") : NC h a := fun o' vs e' d' _ => by
  rw [e] at e'; cases e'; exact d d'
theorem NC.ns {h : Heap} {a : Addr} {m : Str → Option Value} (n : h.Ns a m) : NC h a := by
  obtain ⟨_, _, _, e, d, _⟩ := n
  exact .data e fun vs q => by rw [d] at q; cases q
theorem NC.cell {h : Heap} {a : Addr} {v : Option Value} (n : h.IsCell a v) : NC h a := let ⟨_, e, d⟩ := n; .data e fun vs q => by rw [d] at q; cases q
noncomputable abbrev LstAt (h : Heap) (a : Addr) (items : Array Value) (n : Nat) : Prop := h.get? a = some ({ cls := .type "list", data := .seq items n } : Obj)
noncomputable abbrev TupAt (h : Heap) (a : Addr) (items : Array Value) (n : Nat) : Prop := h.get? a = some ({ cls := .type "tuple", data := .seq items n } : Obj)
theorem LstAt.nc {h : Heap} {a : Addr} {items : Array Value} {n : Nat} (x : LstAt h a items n) : NC h a := .data x fun _ q => nomatch q
theorem LstAt.is {h : Heap} {a : Addr} {items : Array Value} {n : Nat} (x : LstAt h a items n) : h.IsList a items := ⟨_, x, rfl, n, rfl⟩
theorem TupAt.is {h : Heap} {a : Addr} {items : Array Value} {n : Nat} (x : TupAt h a items n) : h.IsTuple a items := ⟨_, x, rfl, n, rfl⟩

mutual
inductive Rd (G : Gh) (h : Heap) : Value → D → Prop
  | none : Rd G h .none .none
  | bool (b : Bool) : Rd G h (.bool b) (.bool b)
  | int (i : Int) (t : Tok) : Rd G h (.int i t) (.int i)
  | flt {x : UInt64} {t : Tok} : 0 < t → t < G.n → G.τ t = x → Rd G h (.float x t) (.flt x)
  | str (s : Str) (t : Tok) : Rd G h (.str s t) (.str s)
  | typ (n : String) : Rd G h (.type n) (.typ n)
  | tup {a : Addr} {items : Array Value} {n : Nat} {ds : List D} : a ∉ G.O → TupAt h a items n → RdL G h items.toList ds → Rd G h (.ref a) (.tup ds)
  | lst {a : Addr} {items : Array Value} {n : Nat} {ds : List D} : a ∉ G.O → LstAt h a items n → RdL G h items.toList ds → Rd G h (.ref a) (.lst ds)
  | rng {r : Addr} {a b : Int} {t u v : Tok} : r ∉ G.O → IsRange h r a b 1 t u v → Rd G h (.ref r) (.rng a b)
  | hdr {a dx l C : Addr} {items : Array Value} {n : Nat} {ds : List D} : a ∉ G.O → dx ∉ G.O → l ∉ G.O → h.get? a = some ({ cls := .ref C, dict := some dx, data := .plain } : Obj) → dx ≠ a →
      h.Ns1 dx (fun x => if x = ("_headers" : Str) then some (.ref l) else none) → LstAt h l items n → RdL G h items.toList ds → Rd G h (.ref a) (.hdr C ds)
  | ref (a : Addr) : Rd G h (.ref a) (.ref a)
inductive RdL (G : Gh) (h : Heap) : List Value → List D → Prop
  | nil : RdL G h [] []
  | cons {v : Value} {d : D} {vs : List Value} {ds : List D} : Rd G h v d → RdL G h vs ds → RdL G h (v :: vs) (d :: ds)
end


noncomputable def RdK (G : Gh) (h : Heap) (v : Value) : D → Prop
  | .none => ∀ P : Value → Prop, P .none → P v
  | .bool b => ∀ P : Value → Prop, P (.bool b) → P v
  | .int i => ∀ P : Value → Prop, (∀ t, P (.int i t)) → P v
  | .flt x => ∀ P : Value → Prop, (∀ t, 0 < t → t < G.n → G.τ t = x → P (.float x t)) → P v
  | .str x => ∀ P : Value → Prop, (∀ t, P (.str x t)) → P v
  | .typ n => ∀ P : Value → Prop, P (.type n) → P v
  | .ref a => ∀ P : Value → Prop, P (.ref a) → P v
  | .tup ds => ∀ P : Value → Prop, (∀ a items n, a ∉ G.O → TupAt h a items n → RdL G h items.toList ds → P (.ref a)) → P v
  | .lst ds => ∀ P : Value → Prop, (∀ a items n, a ∉ G.O → LstAt h a items n → RdL G h items.toList ds → P (.ref a)) → P v
  | .rng a b => ∀ P : Value → Prop, (∀ r t u w, r ∉ G.O → IsRange h r a b 1 t u w → P (.ref r)) → P v
  | .hdr C ds => ∀ P : Value → Prop, (∀ a dx l items n, a ∉ G.O → dx ∉ G.O → l ∉ G.O → h.get? a = some ({ cls := .ref C, dict := some dx, data := .plain } : Obj) → dx ≠ a → h.Ns1 dx (fun x => if x = ("_headers" : Str) then some (.ref l) else Option.none) → LstAt h l items n → RdL G h items.toList ds → P (.ref a)) → P v
theorem Rd.inv {G : Gh} {h : Heap} {v : Value} {d : D} (r : Rd G h v d) : RdK G h v d := by
  cases r
  case none => exact fun _ k => k
  case bool => exact fun _ k => k
  case int => exact fun _ k => k _
  case flt h1 h2 h3 => exact fun _ k => k _ h1 h2 h3
  case str => exact fun _ k => k _
  case typ => exact fun _ k => k
  case ref => exact fun _ k => k
  case tup h1 h2 h3 => exact fun _ k => k _ _ _ h1 h2 h3
  case lst h1 h2 h3 => exact fun _ k => k _ _ _ h1 h2 h3
  case rng h1 h2 => exact fun _ k => k _ _ _ _ h1 h2
  case hdr h1 h2 h3 h4 h5 h6 h7 h8 => exact fun _ k => k _ _ _ _ _ h1 h2 h3 h4 h5 h6 h7 h8
section
variable {G : Gh} {h : Heap} {v : Value} {P : Value → Prop}
@[elab_as_elim] theorem Rd.noneK (r : Rd G h v .none) (k : P .none) : P v := r.inv P k
@[elab_as_elim] theorem Rd.boolK {b : Bool} (r : Rd G h v (.bool b)) (k : P (.bool b)) : P v := r.inv P k
@[elab_as_elim] theorem Rd.intK {i : Int} (r : Rd G h v (.int i)) (k : ∀ t, P (.int i t)) : P v := r.inv P k
@[elab_as_elim] theorem Rd.fltK {x : UInt64} (r : Rd G h v (.flt x)) (k : ∀ t, 0 < t → t < G.n → G.τ t = x → P (.float x t)) : P v := r.inv P k
@[elab_as_elim] theorem Rd.strK {x : Str} (r : Rd G h v (.str x)) (k : ∀ t, P (.str x t)) : P v := r.inv P k
@[elab_as_elim] theorem Rd.typK {n : String} (r : Rd G h v (.typ n)) (k : P (.type n)) : P v := r.inv P k
@[elab_as_elim] theorem Rd.refK {a : Addr} (r : Rd G h v (.ref a)) (k : P (.ref a)) : P v := r.inv P k
@[elab_as_elim] theorem Rd.tupK {ds : List D} (r : Rd G h v (.tup ds)) (k : ∀ a items n, a ∉ G.O → TupAt h a items n → RdL G h items.toList ds → P (.ref a)) : P v := r.inv P k
@[elab_as_elim] theorem Rd.lstK {ds : List D} (r : Rd G h v (.lst ds)) (k : ∀ a items n, a ∉ G.O → LstAt h a items n → RdL G h items.toList ds → P (.ref a)) : P v := r.inv P k
@[elab_as_elim] theorem Rd.rngK {a b : Int} (r : Rd G h v (.rng a b)) (k : ∀ r t u w, r ∉ G.O → IsRange h r a b 1 t u w → P (.ref r)) : P v := r.inv P k
@[elab_as_elim] theorem Rd.hdrK {C : Addr} {ds : List D} (r : Rd G h v (.hdr C ds)) (k : (∀ a dx l items n, a ∉ G.O → dx ∉ G.O → l ∉ G.O → h.get? a = some ({ cls := .ref C, dict := some dx, data := .plain } : Obj) → dx ≠ a → h.Ns1 dx (fun x => if x = ("_headers" : Str) then some (.ref l) else Option.none) → LstAt h l items n → RdL G h items.toList ds → P (.ref a))) : P v := r.inv P k
noncomputable def RdV : Value → D → Prop
  | .none, d => d = .none
  | .bool b, d => d = .bool b
  | .int i _, d => d = .int i
  | .float x _, d => d = .flt x
  | .str x _, d => d = .str x
  | .type n, d => d = .typ n
  | _, _ => True
theorem Rd.vinv {d : D} (r : Rd G h v d) : RdV v d := by
  cases r
  case flt h0 hn hτ => subst hτ; exact rfl
  all_goals first | exact rfl | exact trivial
theorem Rd.tupV {a : Addr} {ds : List D} (r : Rd G h (.ref a) (.tup ds)) : ∃ items n, TupAt h a items n ∧ RdL G h items.toList ds :=
  r.inv (fun v => ∀ b, v = .ref b → ∃ items n, TupAt h b items n ∧ RdL G h items.toList ds) (fun _ i n _ h1 h2 _ e => Value.ref.inj e ▸ ⟨i, n, h1, h2⟩) a rfl
theorem Rd.lstV {a : Addr} {ds : List D} (r : Rd G h (.ref a) (.lst ds)) : ∃ items n, LstAt h a items n ∧ RdL G h items.toList ds :=
  r.inv (fun v => ∀ b, v = .ref b → ∃ items n, LstAt h b items n ∧ RdL G h items.toList ds) (fun _ i n _ h1 h2 _ e => Value.ref.inj e ▸ ⟨i, n, h1, h2⟩) a rfl
@[elab_as_elim] theorem RdL.nilK {vs : List Value} {P : List Value → Prop} (r : RdL G h vs []) (k : P []) : P vs := by cases r; exact k
@[elab_as_elim] theorem RdL.consK {vs : List Value} {d : D} {ds : List D} {P : List Value → Prop} (r : RdL G h vs (d :: ds)) (k : ∀ v vs, Rd G h v d → RdL G h vs ds → P (v :: vs)) : P vs := by cases r; exact k _ _ ‹_› ‹_›
end
theorem nsd {α : Type} {d : α} {P : Prop} (h : (none : Option α) = some d) : P := by cases h
theorem nft {P : Prop} (h : false = true) : P := Bool.noConfusion h
theorem ntf {P : Prop} (h : true = false) : P := Bool.noConfusion h
@[elab_as_elim] theorem smK {α : Type} {x d : α} {P : α → Prop} (h : some x = some d) (k : P x) : P d := by cases h; exact k
@[elab_as_elim] theorem smR {α : Type} {x d : α} {P : α → Prop} (h : some x = some d) (k : P d) : P x := by cases h; exact k
theorem ifT {α : Type} {c : Prop} [Decidable c] {t : Option α} {d : α} {P : Prop} (h : (if c then t else none) = some d) (k : c → t = some d → P) : P := by
  by_cases hc : c
  · rw [if_pos hc] at h; exact k hc h
  · rw [if_neg hc] at h; exact nsd h
theorem ifF {α : Type} {c : Prop} [Decidable c] {t : Option α} {d : α} {P : Prop} (h : (if c then none else t) = some d) (k : ¬ c → t = some d → P) : P := by
  by_cases hc : c
  · rw [if_pos hc] at h; exact nsd h
  · rw [if_neg hc] at h; exact k hc h

noncomputable def intOf1 : D → Option Int
  | .int a => some a
  | _ => none
noncomputable def fltOf1 : D → Option UInt64
  | .flt a => some a
  | _ => none
noncomputable def strOf1 : D → Option Str
  | .str a => some a
  | _ => none
noncomputable def boolOf1 : D → Option Bool
  | .bool a => some a
  | _ => none
noncomputable def refOf1 : D → Option Addr
  | .ref a => some a
  | _ => none
noncomputable def lstOf1 : D → Option (List D)
  | .lst a => some a
  | _ => none
noncomputable def tupOf1 : D → Option (List D)
  | .tup a => some a
  | _ => none
theorem intOf1_eq {d : D} {x : Int} (h : intOf1 d = some x) : d = .int x := by cases d <;> first | exact nsd h | exact congrArg D.int (Option.some.inj h)
theorem fltOf1_eq {d : D} {x : UInt64} (h : fltOf1 d = some x) : d = .flt x := by cases d <;> first | exact nsd h | exact congrArg D.flt (Option.some.inj h)
theorem strOf1_eq {d : D} {x : Str} (h : strOf1 d = some x) : d = .str x := by cases d <;> first | exact nsd h | exact congrArg D.str (Option.some.inj h)
theorem boolOf1_eq {d : D} {x : Bool} (h : boolOf1 d = some x) : d = .bool x := by cases d <;> first | exact nsd h | exact congrArg D.bool (Option.some.inj h)
theorem refOf1_eq {d : D} {x : Addr} (h : refOf1 d = some x) : d = .ref x := by cases d <;> first | exact nsd h | exact congrArg D.ref (Option.some.inj h)
theorem lstOf1_eq {d : D} {x : List D} (h : lstOf1 d = some x) : d = .lst x := by cases d <;> first | exact nsd h | exact congrArg D.lst (Option.some.inj h)
theorem tupOf1_eq {d : D} {x : List D} (h : tupOf1 d = some x) : d = .tup x := by cases d <;> first | exact nsd h | exact congrArg D.tup (Option.some.inj h)
noncomputable def sole {α : Type} (f : D → Option α) : List D → Option α
  | [d] => f d
  | _ => none
theorem sole_eq {α : Type} {f : D → Option α} {ds : List D} {x : α} (h : sole f ds = some x) : ∃ d, ds = [d] ∧ f d = some x := by
  cases ds with
  | nil => exact nsd h
  | cons d r => cases r with
    | nil => exact ⟨d, rfl, h⟩
    | cons => exact nsd h
theorem bnd {α β : Type} {o : Option α} {f : α → Option β} {r : β} (h : o.bind f = some r) : ∃ a, o = some a ∧ f a = some r := Option.bind_eq_some_iff.mp h
theorem bnot {b : Bool} (h : (!b) = true) : b = false := by cases b <;> first | rfl | exact nft h
noncomputable def tst {α : Type} (b : Bool) (o : Option α) : Option α := cond b o none
theorem tst_inv {α : Type} {b : Bool} {o : Option α} {r : α} (h : tst b o = some r) : b = true ∧ o = some r := by
  cases b
  · exact nsd h
  · exact ⟨rfl, h⟩
noncomputable def orE {α β : Type} (o : Option α) (k : α → Option β) (e : Option β) : Option β := Option.casesOn o e k
theorem orE_none {α β : Type} {k : α → Option β} {e : Option β} : orE none k e = e := rfl
theorem orE_inv {α β : Type} {o : Option α} {k : α → Option β} {e : Option β} {r : β} {P : Prop} (h : orE o k e = some r) (h1 : ∀ a, o = some a → k a = some r → P) (h2 : e = some r → P) : P := by
  cases o with
  | none => exact h2 h
  | some a => exact h1 a rfl h
theorem map_inv {α β : Type} {o : Option α} {f : α → β} {r : β} (h : o.map f = some r) : ∃ a, o = some a ∧ some (f a) = some r := by
  cases o with
  | none => exact nsd h
  | some a => exact ⟨a, rfl, h⟩
noncomputable def both {α β : Type} (a : Option α) (b : Option β) : Option (α × β) := match a with
  | some x => match b with
    | some y => some (x, y)
    | none => none
  | none => none
theorem both_eq {α β : Type} {a : Option α} {b : Option β} {p : α × β} (h : both a b = some p) : a = some p.1 ∧ b = some p.2 := by
  cases a with
  | none => exact nsd h
  | some x => cases b with
    | none => exact nsd h
    | some y => rw [← Option.some.inj h]; exact ⟨rfl, rfl⟩
noncomputable def two {α β : Type} (f : D → Option α) (g : D → Option β) (ds : List D) : Option (α × β) := match ds with
  | a :: r => both (f a) (sole g r)
  | [] => none
theorem two_eq {α β : Type} {f : D → Option α} {g : D → Option β} {ds : List D} {p : α × β} (h : two f g ds = some p) : ∃ a b, ds = [a, b] ∧ f a = some p.1 ∧ g b = some p.2 := by
  cases ds with
  | nil => exact nsd h
  | cons a r =>
    obtain ⟨h1, h2⟩ := both_eq h
    obtain ⟨b, e, h2⟩ := sole_eq h2
    exact ⟨a, b, by rw [e], h1, h2⟩
noncomputable def three {α β γ : Type} (f : D → Option α) (g : D → Option β) (k : D → Option γ) (ds : List D) : Option (α × β × γ) := match ds with
  | a :: r => both (f a) (two g k r)
  | [] => none
theorem three_eq {α β γ : Type} {f : D → Option α} {g : D → Option β} {k : D → Option γ} {ds : List D} {p : α × β × γ} (h : three f g k ds = some p) : ∃ a b c, ds = [a, b, c] ∧ f a = some p.1 ∧ g b = some p.2.1 ∧ k c = some p.2.2 := by
  cases ds with
  | nil => exact nsd h
  | cons a r =>
    obtain ⟨h1, h2⟩ := both_eq h
    obtain ⟨b, c, e, h2, h3⟩ := two_eq h2
    exact ⟨a, b, c, by rw [e], h1, h2, h3⟩

structure Up (G : Gh) (h : Heap) (G' : Gh) (h' : Heap) : Prop where
  kp : Kp G.O h h'
  o : ∀ a ∈ G'.O, a ∈ G.O ∨ h.get? a = none
  n : G.n ≤ G'.n
  τ : ∀ t, t < G.n → G'.τ t = G.τ t

theorem Up.no {G G' : Gh} {h h' : Heap} (k : Up G h G' h') {a : Addr} {o : Obj} (ha : a ∉ G.O) (e : h.get? a = some o) : a ∉ G'.O := fun m => (k.o _ m).elim ha fun q => nsd (q.symm.trans e)
theorem Up.ns1 {G G' : Gh} {h h' : Heap} (k : Up G h G' h') {a : Addr} {m : Str → Option Value} (ha : a ∉ G.O) (n : h.Ns1 a m) : a ∉ G'.O ∧ h'.Ns1 a m := by
  obtain ⟨o, es, ep, e, q⟩ := n
  exact ⟨k.no ha e, o, es, ep, k.kp _ _ ha e, q⟩
theorem Rd.up {G G' : Gh} {h h' : Heap} (k : Up G h G' h') {v : Value} {d : D} (r : Rd G h v d) : Rd G' h' v d :=
  @Rd.rec G h (fun v d _ => Rd G' h' v d) (fun vs ds _ => RdL G' h' vs ds) .none (fun b => .bool b) (fun i t => .int i t) (fun h0 hn ht => .flt h0 (Nat.lt_of_lt_of_le hn k.n) ((k.τ _ hn).trans ht)) (fun s t => .str s t) (fun n => .typ n)
    (fun ha ht _ ih => .tup (k.no ha ht) (k.kp _ _ ha ht) ih) (fun ha ht _ ih => .lst (k.no ha ht) (k.kp _ _ ha ht) ih)
    (fun ha ht => .rng (k.no ha ht) (k.kp _ _ ha ht)) (fun ha hx hl ht hne hn hi _ ih => .hdr (k.no ha ht) (k.ns1 hx hn).1 (k.no hl hi) (k.kp _ _ ha ht) hne (k.ns1 hx hn).2 (k.kp _ _ hl hi) ih)
    (fun a => .ref a) .nil (fun _ _ x y => .cons x y) v d r
theorem RdL.up {G G' : Gh} {h h' : Heap} (k : Up G h G' h') {vs : List Value} {ds : List D} (r : RdL G h vs ds) : RdL G' h' vs ds :=
  @RdL.rec G h (fun v d _ => Rd G' h' v d) (fun vs ds _ => RdL G' h' vs ds) .none (fun b => .bool b) (fun i t => .int i t) (fun h0 hn ht => .flt h0 (Nat.lt_of_lt_of_le hn k.n) ((k.τ _ hn).trans ht)) (fun s t => .str s t) (fun n => .typ n)
    (fun ha ht _ ih => .tup (k.no ha ht) (k.kp _ _ ha ht) ih) (fun ha ht _ ih => .lst (k.no ha ht) (k.kp _ _ ha ht) ih)
    (fun ha ht => .rng (k.no ha ht) (k.kp _ _ ha ht)) (fun ha hx hl ht hne hn hi _ ih => .hdr (k.no ha ht) (k.ns1 hx hn).1 (k.no hl hi) (k.kp _ _ ha ht) hne (k.ns1 hx hn).2 (k.kp _ _ hl hi) ih)
    (fun a => .ref a) .nil (fun _ _ x y => .cons x y) vs ds r

theorem RdL.consV {G : Gh} {h : Heap} {v : Value} {vs : List Value} {d : D} {ds : List D} (r : RdL G h (v :: vs) (d :: ds)) : Rd G h v d ∧ RdL G h vs ds := by cases r; exact ⟨‹_›, ‹_›⟩
theorem RdL.length {G : Gh} {h : Heap} : ∀ {ds : List D} {vs : List Value}, RdL G h vs ds → vs.length = ds.length
  | [], _, r => r.nilK rfl
  | _ :: _, _, r => r.consK fun _ _ _ y => congrArg (· + 1) (RdL.length y)
theorem RdL.size {G : Gh} {h : Heap} {vs : Array Value} {ds : List D} (r : RdL G h vs.toList ds) : vs.size = ds.length := by rw [← r.length, Array.length_toList]
theorem RdL.get {G : Gh} {h : Heap} : ∀ {ds : List D} {vs : List Value}, RdL G h vs ds → ∀ {i : Nat} {d : D}, ds[i]? = some d → ∃ v, vs[i]? = some v ∧ Rd G h v d
  | [], _, _, _, _, e => nsd e
  | _ :: _, _, r, 0, _, e => r.consK fun v _ x _ => ⟨v, rfl, Option.some.inj e ▸ x⟩
  | _ :: _, _, r, i + 1, _, e => r.consK fun _ _ _ y => RdL.get y (i := i) e
theorem RdL.getv {G : Gh} {h : Heap} : ∀ {ds : List D} {vs : List Value}, RdL G h vs ds → ∀ {i : Nat} {v : Value}, vs[i]? = some v → ∃ d, ds[i]? = some d ∧ Rd G h v d
  | [], _, r, _, _, e => nsd (r.nilK (P := fun vs => (none : Option Value) = vs[_]?) rfl |>.trans e)
  | d :: _, _, r, 0, v, e => r.consK (P := fun vs => vs[0]? = some v → _) (fun w _ x _ e => ⟨d, rfl, Option.some.inj (List.getElem?_cons_zero.symm.trans e) ▸ x⟩) e
  | _ :: _, _, r, i + 1, v, e => r.consK (P := fun vs => vs[i + 1]? = some v → _) (fun _ _ _ y e => RdL.getv y (i := i) e) e
theorem RdL.app {G : Gh} {h : Heap} {vs' : List Value} {ds' : List D} (z : RdL G h vs' ds') : ∀ {ds : List D} {vs : List Value}, RdL G h vs ds → RdL G h (vs ++ vs') (ds ++ ds')
  | [], _, r => r.nilK z
  | _ :: _, _, r => r.consK fun _ _ x y => .cons x (RdL.app z y)
theorem RdL.append {G : Gh} {h : Heap} {vs vs' : List Value} {ds ds' : List D} (x : RdL G h vs ds) (z : RdL G h vs' ds') : RdL G h (vs ++ vs') (ds ++ ds') := RdL.app z x
theorem RdL.snoc {G : Gh} {h : Heap} {vs : List Value} {ds : List D} {v : Value} {d : D} (x : RdL G h vs ds) (y : Rd G h v d) : RdL G h (vs ++ [v]) (ds ++ [d]) := RdL.app (.cons y .nil) x

structure Bs where
  prog : Program
  w : World
  h0 : Heap
  tb : List Addr
  mg : Str → Option Value
  mb : Str → Option Value
  mc : Str → Option Value
  hg : h0.Ns mainGlobals mg
  hb : h0.Ns builtinsNs mb
  hc : h0.Ns cStatics mc
  lim : mc "sys.recursionlimit" = none
  shr : mc sharingNotToldKey = none
  low : ∀ a ∈ tb, a ≠ mainGlobals ∧ a ≠ builtinsNs ∧ a ≠ cStatics
  dn : Addr → Pos × Str
  tab : TQ tb dn h0

noncomputable abbrev Bs.M (B : Bs) : Model := model B.prog B.w

structure St (B : Bs) (G : Gh) (s : Shared) : Prop where
  kp : Kp B.tb B.h0 s.heap
  tg : TQ B.tb B.dn s.heap
  sub : ∀ a ∈ B.tb, a ∈ G.O
  lt : ∀ a ∈ G.O, a < s.heap.objs.size
  tk : G.n ≤ s.toks
  pos : 0 < G.n

structure Kw (B : Bs) (W : List Addr) (G : Gh) (s : Shared) (G' : Gh) (s' : Shared) : Prop where
  same : ∃ h' tk, s' = { s with heap := h', toks := tk }
  kp : Kp (W ++ B.tb) s.heap s'.heap
  tg : Tg B.tb B.dn s.heap s'.heap
  cd : Cd s.heap s'.heap
  sz : s.heap.objs.size ≤ s'.heap.objs.size
  o : G'.O = G.O
  n : G.n ≤ G'.n
  τ : ∀ t, t < G.n → G'.τ t = G.τ t
  tk : G'.n ≤ s'.toks
noncomputable abbrev Ke (B : Bs) (G : Gh) (s : Shared) (G' : Gh) (s' : Shared) : Prop := Kw B [] G s G' s'

theorem Kw.refl {B : Bs} {W : List Addr} {G : Gh} {s : Shared} (x : St B G s) : Kw B W G s G s := ⟨⟨_, _, rfl⟩, Kp.refl _ _, Tg.refl _ _, Cd.refl _, Nat.le_refl _, rfl, Nat.le_refl _, fun _ _ => rfl, x.tk⟩
theorem Kw.trans {B : Bs} {W : List Addr} {G G' G'' : Gh} {s s' s'' : Shared} (a : Kw B W G s G' s') (b : Kw B W G' s' G'' s'') : Kw B W G s G'' s'' := by
  refine ⟨?_, a.kp.trans b.kp, a.tg.trans b.tg, a.cd.trans b.cd, Nat.le_trans a.sz b.sz, b.o.trans a.o, Nat.le_trans a.n b.n, fun t ht => (b.τ t (Nat.lt_of_lt_of_le ht a.n)).trans (a.τ t ht), b.tk⟩
  obtain ⟨h1, t1, e1⟩ := a.same
  obtain ⟨h2, t2, e2⟩ := b.same
  exact ⟨h2, t2, by rw [e2, e1]⟩
theorem Kw.mono {B : Bs} {W W' : List Addr} {G G' : Gh} {s s' : Shared} (a : Kw B W G s G' s') (h : ∀ b ∈ W, b ∈ W') : Kw B W' G s G' s' :=
  ⟨a.same, a.kp.mono fun b hb => (List.mem_append.mp hb).elim (fun x => List.mem_append_left _ (h b x)) fun x => List.mem_append_right _ x, a.tg, a.cd, a.sz, a.o, a.n, a.τ, a.tk⟩
theorem Kw.of_ke {B : Bs} {W : List Addr} {G G' : Gh} {s s' : Shared} (a : Ke B G s G' s') : Kw B W G s G' s' := Kw.mono a fun _ h => nomatch h
theorem Ke.refl {B : Bs} {G : Gh} {s : Shared} (x : St B G s) : Ke B G s G s := Kw.refl x
theorem Ke.trans {B : Bs} {G G' G'' : Gh} {s s' s'' : Shared} (a : Ke B G s G' s') (b : Ke B G' s' G'' s'') : Ke B G s G'' s'' := Kw.trans a b
theorem Ke.of {B : Bs} {G : Gh} {s : Shared} (x : St B G s) {h' : Heap} {tk : Nat} (k : ∀ b o, s.heap.get? b = some o → h'.get? b = some o) (ht : s.toks ≤ tk) (hz : s.heap.objs.size ≤ h'.objs.size) : Ke B G s G { s with heap := h', toks := tk } :=
  ⟨⟨_, _, rfl⟩, Kp.all k, Tg.all k, Cd.all k, hz, rfl, Nat.le_refl _, fun _ _ => rfl, Nat.le_trans x.tk ht⟩
theorem Ke.tok {B : Bs} {G : Gh} {s : Shared} (x : St B G s) {t : Nat} (ht : s.toks ≤ t) : Ke B G s G { s with toks := t } :=
  ⟨⟨_, _, rfl⟩, Kp.refl _ _, Tg.refl _ _, Cd.refl _, Nat.le_refl _, rfl, Nat.le_refl _, fun _ _ => rfl, Nat.le_trans x.tk ht⟩
theorem Ke.push {B : Bs} {G : Gh} {s : Shared} (x : St B G s) (o : Obj) {t : Nat} (ht : s.toks ≤ t) : Ke B G s G { s with heap := s.heap.push o, toks := t } :=
  .of x (fun _ _ e => Heap.get?_push_of_some o e) ht (by rw [Heap.size_push]; exact Nat.le_succ _)
theorem Kw.one {B : Bs} {W : List Addr} {G : Gh} {s : Shared} (x : St B G s) {a : Addr} {h' : Heap} {tk : Nat} (ha : a ∈ W) (hb : a ∉ B.tb) (hs : Heap.ExtBut a s.heap h') (hz : s.heap.objs.size ≤ h'.objs.size) (ht : s.toks ≤ tk) (hn : NC s.heap a) :
    Kw B W G s G { s with heap := h', toks := tk } :=
  ⟨⟨_, _, rfl⟩, Kp.ext hs (List.mem_append_left _ ha), Tg.keep (fun P hP o e => hs P o (fun q => hb (q ▸ hP)) e) (Cd.ext hs hn), Cd.ext hs hn, hz, rfl, Nat.le_refl _, fun _ _ => rfl, Nat.le_trans x.tk ht⟩
theorem Kw.same1 {B : Bs} {W : List Addr} {G : Gh} {s : Shared} (x : St B G s) {a : Addr} {h' : Heap} {tk : Nat} (ha : a ∈ W) (hb : a ∉ B.tb) (hs : Heap.SameBut a s.heap h') (ht : s.toks ≤ tk) (hn : NC s.heap a) :
    Kw B W G s G { s with heap := h', toks := tk } := .one x ha hb hs.extBut (Nat.le_of_eq hs.1.symm) ht hn
noncomputable def Gh.put (G : Gh) (t : Tok) (x : UInt64) : Gh := { G with τ := fun u => if u = t then x else G.τ u, n := t + 1 }
theorem Ke.flt {B : Bs} {G : Gh} {s : Shared} (x : St B G s) (y : UInt64) : Ke B G s (G.put s.toks y) { s with toks := s.toks + 1 } :=
  ⟨⟨_, _, rfl⟩, Kp.refl _ _, Tg.refl _ _, Cd.refl _, Nat.le_refl _, rfl, Nat.le_succ_of_le x.tk, fun t ht => if_neg (Nat.ne_of_lt (Nat.lt_of_lt_of_le ht x.tk)), Nat.le_refl _⟩

theorem Kw.up {B : Bs} {W : List Addr} {G G' : Gh} {s s' : Shared} (k : Kw B W G s G' s') (x : St B G s) (hW : ∀ a ∈ W, a ∈ G.O) : Up G s.heap G' s'.heap :=
  ⟨k.kp.mono fun b hb => (List.mem_append.mp hb).elim (hW b) (x.sub b), fun a ha => .inl (k.o ▸ ha), k.n, k.τ⟩
theorem Ke.up {B : Bs} {G G' : Gh} {s s' : Shared} (k : Ke B G s G' s') (x : St B G s) : Up G s.heap G' s'.heap := Kw.up k x fun _ h => nomatch h
theorem St.kw {B : Bs} {W : List Addr} {G G' : Gh} {s s' : Shared} (x : St B G s) (k : Kw B W G s G' s') (hW : ∀ a ∈ W, B.h0.get? a = none) : St B G' s' := by
  refine ⟨fun b o hb e => ?_, k.tg x.tg, by rw [k.o]; exact x.sub, fun a ha => ?_, k.tk, Nat.lt_of_lt_of_le x.pos k.n⟩
  · refine k.kp b o (fun m => ?_) (x.kp b o hb e)
    rcases List.mem_append.mp m with y | y
    · rw [hW b y] at e; cases e
    · exact hb y
  · rw [k.o] at ha
    exact Nat.lt_of_lt_of_le (x.lt a ha) k.sz
theorem St.ke {B : Bs} {G G' : Gh} {s s' : Shared} (x : St B G s) (k : Ke B G s G' s') : St B G' s' := x.kw k fun _ h => nomatch h
theorem Rd.ke {B : Bs} {G G' : Gh} {s s' : Shared} {v : Value} {d : D} (r : Rd G s.heap v d) (x : St B G s) (k : Ke B G s G' s') : Rd G' s'.heap v d := r.up (k.up x)
theorem RdL.ke {B : Bs} {G G' : Gh} {s s' : Shared} {v : List Value} {d : List D} (r : RdL G s.heap v d) (x : St B G s) (k : Ke B G s G' s') : RdL G' s'.heap v d := r.up (k.up x)
theorem St.fresh {B : Bs} {G : Gh} {s : Shared} (x : St B G s) {a : Addr} (ha : s.heap.objs.size ≤ a) : a ∉ G.O := fun m => Nat.not_lt.mpr ha (x.lt a m)
theorem get_size_none (h : Heap) : h.get? h.objs.size = none := by
  cases e : h.get? h.objs.size with
  | none => rfl
  | some o => exact absurd (Heap.lt_size e) (Nat.lt_irrefl _)
theorem Kp.ns {X : List Addr} {h h' : Heap} {a : Addr} {m : Str → Option Value} (k : Kp X h h') (ha : a ∉ X) (n : h.Ns a m) : h'.Ns a m :=
  let ⟨o, es, ep, e, r⟩ := n; ⟨o, es, ep, k a o ha e, r⟩
theorem Kp.cell {X : List Addr} {h h' : Heap} {a : Addr} {v : Option Value} (k : Kp X h h') (ha : a ∉ X) (n : h.IsCell a v) : h'.IsCell a v :=
  let ⟨o, e, r⟩ := n; ⟨o, k a o ha e, r⟩
theorem St.g {B : Bs} {G : Gh} {s : Shared} (x : St B G s) : s.heap.Ns mainGlobals B.mg := x.kp.ns (fun m => (B.low _ m).1 rfl) B.hg
theorem St.b {B : Bs} {G : Gh} {s : Shared} (x : St B G s) : s.heap.Ns builtinsNs B.mb := x.kp.ns (fun m => (B.low _ m).2.1 rfl) B.hb
theorem St.c {B : Bs} {G : Gh} {s : Shared} (x : St B G s) : s.heap.Ns cStatics B.mc := x.kp.ns (fun m => (B.low _ m).2.2 rfl) B.hc
theorem St.lim {B : Bs} {G : Gh} {s : Shared} (x : St B G s) : s.heap.NoLimit := ⟨_, x.c, B.lim⟩
theorem St.nb {B : Bs} {G : Gh} {s : Shared} (x : St B G s) : NoneBooked s.heap := ⟨_, x.c, B.shr⟩

structure WP {α : Type} (B : Bs) (A : Around) (t : Sem α) (Q : α → Shared → Prop) (E : Value → Shared → Prop) (s : Shared) : Prop where
  w : wpAny B.M A t Q E s
structure CP (B : Bs) (A : Around) (c : Code) (R : Result → Shared → Prop) (s : Shared) : Prop where
  w : codeAny B.M A c R s

section
variable {α β : Type} {B : Bs} {A : Around} {E E' : Value → Shared → Prop} {s : Shared}
theorem WP.mono {t : Sem α} {Q Q' : α → Shared → Prop} (h : WP B A t Q E s) (hQ : ∀ a s, Q a s → Q' a s) (hE : ∀ e s, E e s → E' e s) : WP B A t Q' E' s :=
  ⟨@wpAny_mono _ _ _ _ _ _ _ _ _ h.w hQ hE⟩
theorem WP.post {t : Sem α} {Q Q' : α → Shared → Prop} (h : WP B A t Q E s) (hQ : ∀ a s, Q a s → Q' a s) : WP B A t Q' E s := h.mono hQ fun _ _ x => x
theorem WP.pure {a : α} {Q : α → Shared → Prop} (h : Q a s) : WP B A (Pure.pure a) Q E s := ⟨@wpAny_pure _ _ _ _ _ _ _ h⟩
theorem WP.bind {m : Sem α} {f : α → Sem β} {Q : β → Shared → Prop} (h : WP B A m (fun a s' => WP B A (f a) Q E s') E s) : WP B A (m >>= f) Q E s :=
  ⟨@wpAny_bind _ _ _ _ _ _ _ _ _ (@wpAny_mono _ _ _ _ _ _ _ _ _ h.w (fun _ _ x => x.w) fun _ _ x => x)⟩
theorem WP.standAt {pos : Pos} {Q : Unit → Shared → Prop} (h : Q () s) : WP B A (standAt pos) Q E s := ⟨@wpAny_standAt _ _ _ _ _ _ h⟩
theorem WP.rule {tag : String} {Q : Unit → Shared → Prop} (h : Q () s) : WP B A (PySem.rule tag) Q E s := ⟨@wpAny_rule _ _ _ _ _ _ h⟩
theorem WP.holding {vs : List Value} {m : Sem α} {Q : α → Shared → Prop} (h : WP B A m Q E s) : WP B A (holding vs m) Q E s := ⟨@wpAny_holding _ _ _ _ _ _ _ _ h.w⟩
theorem WP.keep {vs : List Value} {m : Sem α} {Q : α → Shared → Prop} (h : WP B A m Q E s) : WP B A (m.keep vs) Q E s := ⟨@Calls.wpAny_keep _ _ _ _ _ _ _ _ h.w⟩
theorem WP.point {Q : Unit → Shared → Prop} (h : Q () s) : WP B A point Q E s := ⟨@wpAny_point _ _ _ _ _ h⟩
theorem WP.in1 {t : Sem α} {Q : α → Shared → Prop} (h : WP B A.in1 t Q E s) : WP B A t Q E s := ⟨@wpAny_of_in1 _ _ _ _ _ _ _ h.w⟩
theorem WP.mt {t : Sem α} {Q : α → Shared → Prop} (h : WP B A t (fun a s' => s.toks ≤ s'.toks → s.heap.objs.size ≤ s'.heap.objs.size → Q a s') E s) : WP B A t Q E s :=
  ⟨fun Γ p hΓ => by
    have h1 := Sem.wp_toks B.M Γ s.toks t _ _ p s (Nat.le_refl _) (h.w Γ p hΓ)
    have h2 := wp_size B.M Γ s.heap.objs.size t _ _ p s (Nat.le_refl _) h1
    exact Sem.wp_mono B.M Γ t (fun _ _ _ x => x.2.2 x.2.1 x.1) (fun _ _ _ x => x.2) p s h2⟩
end

noncomputable abbrev Post (B : Bs) (G : Gh) (s : Shared) (d : D) (Q : Value → Shared → Prop) : Prop := ∀ v G' s', Ke B G s G' s' → Rd G' s'.heap v d → Q v s'
section
variable {B : Bs} {G : Gh} {s : Shared} {d : D} {Q : Value → Shared → Prop}
theorem Post.of {x : D} (hQ : Post B G s d Q) (h : some x = some d) : Post B G s x Q := by cases h; exact hQ
theorem Post.val (hQ : Post B G s d Q) (st : St B G s) {v : Value} (r : Rd G s.heap v d) : Q v s := hQ v G s (.refl st) r
theorem Post.tok (hQ : Post B G s d Q) (st : St B G s) {v : Value} (r : Rd G s.heap v d) {t : Nat} (ht : s.toks ≤ t) : Q v { s with toks := t } := hQ v G _ (.tok st ht) r
theorem Post.tok1 (hQ : Post B G s d Q) (st : St B G s) {v : Value} (r : Rd G s.heap v d) : Q v { s with toks := s.toks + 1 } := hQ.tok st r (Nat.le_succ _)
theorem Post.flt {x : UInt64} (hQ : Post B G s (.flt x) Q) (st : St B G s) : Q (.float x s.toks) { s with toks := s.toks + 1 } :=
  hQ _ _ _ (.flt st x) (.flt (Nat.lt_of_lt_of_le st.pos st.tk) (Nat.lt_succ_self _) (if_pos rfl))
theorem Post.after {G' : Gh} {s' : Shared} (hQ : Post B G s d Q) (k : Ke B G s G' s') : Post B G' s' d Q := fun v G'' s'' k' r => hQ v G'' s'' (k.trans k') r
theorem Post.newL {items : Array Value} {n : Nat} {ds : List D} (hQ : Post B G s (.lst ds) Q) (st : St B G s) (r : RdL G s.heap items.toList ds) :
    Q (.ref s.heap.objs.size) { s with heap := s.heap.push { cls := .type "list", data := .seq items n } } :=
  hQ _ _ _ (Ke.push st _ (Nat.le_refl _)) (.lst (st.fresh (Nat.le_refl _)) (Heap.get?_push_size _ rfl) (r.ke st (Ke.push st _ (Nat.le_refl _))))
theorem Post.newT {items : Array Value} {n : Nat} {ds : List D} (hQ : Post B G s (.tup ds) Q) (st : St B G s) (r : RdL G s.heap items.toList ds) :
    Q (.ref s.heap.objs.size) { s with heap := s.heap.push { cls := .type "tuple", data := .seq items n } } :=
  hQ _ _ _ (Ke.push st _ (Nat.le_refl _)) (.tup (st.fresh (Nat.le_refl _)) (Heap.get?_push_size _ rfl) (r.ke st (Ke.push st _ (Nat.le_refl _))))
end

structure Room (m : Nat) (A : Around) : Prop where
  hd : A.handled = none
  dep : A.depth + m < 900
  un : A.units + 8 * m < 9000
theorem room_d {a m k : Nat} (h : a + (m + 1) < k) : a + 1 + m < k := by rw [Nat.add_assoc, Nat.add_comm 1]; exact h
theorem room_u {a m k u : Nat} (hu : u ≤ 8) (h : a + 8 * (m + 1) < k) : a + u + 8 * m < k := by rw [Nat.add_assoc, Nat.add_comm u]; exact Nat.lt_of_le_of_lt (Nat.add_le_add_left (Nat.add_le_add_left hu _) _) h
theorem Room.less {m n : Nat} {A : Around} (h : Room m A) (hn : n ≤ m) : Room n A := ⟨h.hd, Nat.lt_of_le_of_lt (Nat.add_le_add_left hn _) h.dep, Nat.lt_of_le_of_lt (Nat.add_le_add_left (Nat.mul_le_mul_left 8 hn) _) h.un⟩
theorem Room.deeper {m : Nat} {A : Around} (env : Env) (h : Room (m + 1) A) : Room m (A.deeper env) := ⟨h.hd, room_d h.dep, room_u (by decide : 3 ≤ 8) h.un⟩
theorem Room.line {m : Nat} {A : Around} (h : Room m A) : A.units + 100 < cLine := Nat.lt_of_le_of_lt (Nat.add_le_add_right (Nat.le_add_right _ (8 * m)) 100) (Nat.lt_of_lt_of_le (Nat.add_lt_add_right h.un 100) (by decide : 9000 + 100 ≤ 9900))
theorem Room.depth {m : Nat} {A : Around} (h : Room m A) : A.depth < recursionLimit := Nat.lt_of_le_of_lt (Nat.le_add_right _ _) (Nat.lt_of_lt_of_le h.dep (by decide : 900 ≤ 1000))

end Mine

end
section
open PySem PySem.W PyProof.Rows
set_option Elab.async false
namespace Mine

noncomputable def intOp : Operator → Int → Int → Option D
  | .Add, a, b => some (.int (a + b))
  | .Sub, a, b => some (.int (a - b))
  | .Mult, a, b => if (decide (Builtin.Int.intBits a > shortFactorBits) && decide (Builtin.Int.intBits b > shortFactorBits) && Builtin.Int.intTooBig (Builtin.Int.intBits a + Builtin.Int.intBits b)) = true then none else some (.int (a * b))
  | .FloorDiv, a, b => if b = 0 ∨ Builtin.divisionGoesByPylong a b = true then none else some (.int (a.fdiv b))
  | .Mod, a, b => if b = 0 then none else some (.int (a.fmod b))
  | .Pow, a, n => if 0 ≤ n ∧ (Builtin.Int.intBits a : Int) * n ≤ 2 ^ 27 then some (.int (a ^ n.toNat)) else none
  | .LShift, a, n => if 0 ≤ n ∧ (Builtin.Int.intBits a : Int) + n ≤ 2 ^ 27 then some (.int (a * 2 ^ n.toNat)) else none
  | .RShift, a, n => if 0 ≤ n then some (.int (a.fdiv (2 ^ n.toNat))) else none
  | .BitAnd, a, b => some (.int (Builtin.bitAnd a b))
  | .BitOr, a, b => some (.int (Builtin.bitOr a b))
  | .BitXor, a, b => some (.int (Builtin.bitXor a b))
  | .Div, a, b => if b = 0 ∨ Float64.isInf (Float64.ofFrac (decide (a < 0) != decide (b < 0)) a.natAbs b.natAbs) = true then none else some (.flt (Float64.ofFrac (decide (a < 0) != decide (b < 0)) a.natAbs b.natAbs))
  | .MatMult, _, _ => none
noncomputable def fltOp : Operator → UInt64 → UInt64 → Option D
  | .Add, a, b => some (.flt (Float64.add a b))
  | .Sub, a, b => some (.flt (Float64.sub a b))
  | .Mult, a, b => some (.flt (Float64.mul a b))
  | .Div, a, b => if Float64.isZero b = true then none else some (.flt (Float64.div a b))
  | .Mod, a, b => if Float64.isZero b = true then none else some (.flt (Float64.divmod a b).snd)
  | _, _, _ => none
noncomputable def fltOpI (op : Operator) (x : UInt64) (j : Int) : Option D := if Float64.isInf (Float64.ofInt j) = true then none else fltOp op x (Float64.ofInt j)
noncomputable def intOpF (op : Operator) (i : Int) (y : UInt64) : Option D := if Float64.isInf (Float64.ofInt i) = true then none else fltOp op (Float64.ofInt i) y
noncomputable def strOp (op : Operator) (x y : Str) : Option D := match op with
  | .Add => if x.length + y.length ≤ sizeLine then some (.str (x ++ y)) else none
  | _ => none
noncomputable def lstOp (op : Operator) (xs ys : List D) : Option D := match op with
  | .Add => if xs.length + ys.length ≤ sizeLine then some (.lst (xs ++ ys)) else none
  | _ => none
noncomputable def lstMul (op : Operator) (xs : List D) (n : Int) : Option D := match op with
  | .Mult => if -(2 ^ 63 : Int) ≤ n ∧ n < 2 ^ 63 ∧ xs.length * n.toNat ≤ 2 ^ 24 then some (.lst (List.replicate n.toNat xs).flatten) else none
  | _ => none
noncomputable def binop (op : Operator) (a b : D) : Option D := match intOf1 b with
  | some j => match intOf1 a with
    | some i => intOp op i j
    | none => match fltOf1 a with
      | some x => fltOpI op x j
      | none => match lstOf1 a with
        | some xs => lstMul op xs j
        | none => none
  | none => match fltOf1 b with
    | some y => match fltOf1 a with
      | some x => fltOp op x y
      | none => match intOf1 a with
        | some i => intOpF op i y
        | none => none
    | none => match both (strOf1 a) (strOf1 b) with
      | some p => strOp op p.1 p.2
      | none => match both (lstOf1 a) (lstOf1 b) with
        | some p => lstOp op p.1 p.2
        | none => none

section
variable {B : Bs} {A : Around} {G : Gh} {s : Shared} {Q : Value → Shared → Prop} {E : Value → Shared → Prop}

theorem intOp_ok {op : Operator} {i j : Int} {t u : Tok} {d : D} (st : St B G s) (h : intOp op i j = some d)
    (hQ : Post B G s d Q) : WP B A (binaryOp op (.int i t) (.int j u)) Q E s := by
  cases op <;> (unfold intOp at h; dsimp only at h)
  case Add => exact ⟨@PyProof.Rows.add_int _ _ _ _ _ _ _ _ _ _ ((hQ.of h).tok1 st (.int _ _))⟩
  case Sub => exact ⟨@PyProof.Rows.sub_int' _ _ _ _ _ _ _ _ _ _ ((hQ.of h).tok1 st (.int _ _))⟩
  case Mult =>
    exact ifF h fun hm h => ⟨@PyProof.Rows.mul_int _ _ _ _ _ _ _ _ _ _ ((hQ.of h).tok1 st (.int _ _)) hm⟩
  case MatMult => exact nsd h
  case Div =>
    refine ifF h fun hc h => ?_
    rw [not_or] at hc
    exact ⟨@AutoIntOps.truediv_2 _ _ _ _ _ _ _ _ _ _ (by simpa using hc.1) hc.2 ((hQ.of h).flt st)⟩
  case Mod =>
    exact ifF h fun hc h => ⟨@PyProof.Rows.mod_int' _ _ _ _ _ _ _ _ _ _ hc ((hQ.of h).tok1 st (.int _ _))⟩
  case Pow =>
    exact ifT h fun hc h => ⟨@PyProof.Rows.pow_int _ _ _ _ _ _ _ _ _ _ hc.1 hc.2 ((hQ.of h).tok1 st (.int _ _))⟩
  case LShift =>
    exact ifT h fun hc h => ⟨@PyProof.Rows.lshift_int _ _ _ _ _ _ _ _ _ _ hc.1 hc.2 ((hQ.of h).tok1 st (.int _ _))⟩
  case RShift =>
    exact ifT h fun hc h => ⟨@PyProof.Rows.rshift_int _ _ _ _ _ _ _ _ _ _ hc ((hQ.of h).tok1 st (.int _ _))⟩
  case BitOr => exact ⟨@PyProof.Rows.or_int _ _ _ _ _ _ _ _ _ _ ((hQ.of h).tok1 st (.int _ _))⟩
  case BitXor => exact ⟨@PyProof.Rows.xor_int _ _ _ _ _ _ _ _ _ _ ((hQ.of h).tok1 st (.int _ _))⟩
  case BitAnd => exact ⟨@PyProof.Rows.and_int _ _ _ _ _ _ _ _ _ _ ((hQ.of h).tok1 st (.int _ _))⟩
  case FloorDiv =>
    refine ifF h fun hc h => ?_
    rw [not_or] at hc
    exact ⟨@PyProof.Rows.floordiv_int _ _ _ _ _ _ _ _ _ _ hc.1 ((hQ.of h).tok1 st (.int _ _)) (.inl (by simpa using hc.2))⟩

theorem fltOp_ok {op : Operator} {x y : UInt64} {t u : Tok} {d : D} (st : St B G s) (h : fltOp op x y = some d)
    (hQ : Post B G s d Q) : WP B A (binaryOp op (.float x t) (.float y u)) Q E s := by
  cases op <;> first | exact nsd h | (unfold fltOp at h; dsimp only at h)
  case Add => exact ⟨@PyProof.Rows.add_float _ _ _ _ _ _ _ _ _ _ ((hQ.of h).flt st)⟩
  case Sub => exact ⟨@PyProof.Rows.sub_float _ _ _ _ _ _ _ _ _ _ ((hQ.of h).flt st)⟩
  case Mult => exact ⟨@PyProof.Rows.mul_float _ _ _ _ _ _ _ _ _ _ ((hQ.of h).flt st)⟩
  case Div =>
    exact ifF h fun hc h => ⟨@AutoFloatOps.truediv_1 _ _ _ _ _ _ _ _ _ _ hc ((hQ.of h).flt st)⟩
  case Mod =>
    exact ifF h fun hc h => ⟨@AutoFloatOps.mod_1 _ _ _ _ _ _ _ _ _ _ hc ((hQ.of h).flt st)⟩

theorem fiOp_ok {op : Operator} {x : UInt64} {j : Int} {t u : Tok} {d : D} (st : St B G s) (hi : ¬ Float64.isInf (Float64.ofInt j) = true) (h : fltOp op x (Float64.ofInt j) = some d)
    (hQ : Post B G s d Q) : WP B A (binaryOp op (.float x t) (.int j u)) Q E s := by
  cases op <;> first | exact nsd h | (unfold fltOp at h; dsimp only at h)
  case Add => exact ⟨@AutoFloatOps.add_fi_1 _ _ _ _ _ _ _ _ _ _ hi ((hQ.of h).flt st)⟩
  case Sub => exact ⟨@AutoFloatOps.sub_fi_1 _ _ _ _ _ _ _ _ _ _ hi ((hQ.of h).flt st)⟩
  case Mult => exact ⟨@AutoFloatOps.mul_fi_1 _ _ _ _ _ _ _ _ _ _ hi ((hQ.of h).flt st)⟩
  case Div =>
    exact ifF h fun hc h => ⟨@AutoFloatOps.truediv_fi_2 _ _ _ _ _ _ _ _ _ _ hi hc ((hQ.of h).flt st)⟩
  case Mod =>
    exact ifF h fun hc h => ⟨@AutoFloatOps.mod_fi_2 _ _ _ _ _ _ _ _ _ _ hi hc ((hQ.of h).flt st)⟩

theorem ifOp_ok {op : Operator} {y : UInt64} {i : Int} {t u : Tok} {d : D} (st : St B G s) (hi : ¬ Float64.isInf (Float64.ofInt i) = true) (h : fltOp op (Float64.ofInt i) y = some d)
    (hQ : Post B G s d Q) : WP B A (binaryOp op (.int i u) (.float y t)) Q E s := by
  cases op <;> first | exact nsd h | (unfold fltOp at h; dsimp only at h)
  case Add => exact ⟨@AutoFloatOps.add_if_1 _ _ _ _ _ _ _ _ _ _ hi ((hQ.of h).flt st)⟩
  case Sub => exact ⟨@AutoFloatOps.sub_if_1 _ _ _ _ _ _ _ _ _ _ hi ((hQ.of h).flt st)⟩
  case Mult => exact ⟨@AutoFloatOps.mul_if_1 _ _ _ _ _ _ _ _ _ _ hi ((hQ.of h).flt st)⟩
  case Div =>
    exact ifF h fun hc h => ⟨@AutoFloatOps.truediv_if_2 _ _ _ _ _ _ _ _ _ _ hi hc ((hQ.of h).flt st)⟩
  case Mod =>
    exact ifF h fun hc h => ⟨@AutoFloatOps.mod_if_2 _ _ _ _ _ _ _ _ _ _ hi hc ((hQ.of h).flt st)⟩

theorem RdL.flat {G : Gh} {h : Heap} {vs : List Value} {ds : List D} (r : RdL G h vs ds) : ∀ n : Nat, RdL G h (List.replicate n vs).flatten (List.replicate n ds).flatten
  | 0 => .nil
  | n + 1 => by rw [List.replicate_succ, List.replicate_succ, List.flatten_cons, List.flatten_cons]; exact r.append (RdL.flat r n)

theorem foldl_arr (l : List (Array Value)) (acc : Array Value) : (List.foldl (fun x1 x2 => x1 ++ x2) acc l).toList = acc.toList ++ (l.map (·.toList)).flatten := by
  induction l generalizing acc with
  | nil => simp
  | cons x l ih => rw [List.foldl_cons, ih]; simp

theorem addStr_ok {x y : Str} {t u : Tok} {d : D} (st : St B G s) (h : strOp .Add x y = some d)
    (hQ : Post B G s d Q) : WP B A (binaryOp .Add (.str x t) (.str y u)) Q E s := by
  exact ifT h fun hs h => WP.mt ⟨@PyProof.Rows.add_str _ _ _ _ _ _ _ _ _ _ (fun t' tk ht _ => (hQ.of h).tok st (.str _ _) ht) hs⟩
theorem addLst_ok {a1 a2 : Addr} {i1 i2 : Array Value} {n1 n2 : Nat} {d1 d2 : List D} {d : D} (st : St B G s) (h1 : LstAt s.heap a1 i1 n1) (h2 : LstAt s.heap a2 i2 n2)
    (r1 : RdL G s.heap i1.toList d1) (r2 : RdL G s.heap i2.toList d2) (h : lstOp .Add d1 d2 = some d)
    (hQ : Post B G s d Q) : WP B A (binaryOp .Add (.ref a1) (.ref a2)) Q E s := by
  refine ifT h fun hs h => ?_
  exact ⟨@P.add_list _ _ _ _ _ _ _ _ _ _ _ _ h1 h2 ((hQ.of h).newL st (by rw [Array.toList_append]; exact r1.append r2)) (by rw [r1.size, r2.size]; exact hs)⟩
theorem mulLst_ok {a1 : Addr} {i1 : Array Value} {n1 : Nat} {d1 : List D} {i : Int} {t : Tok} {d : D} (st : St B G s) (h1 : LstAt s.heap a1 i1 n1)
    (r1 : RdL G s.heap i1.toList d1) (h : lstMul .Mult d1 i = some d)
    (hQ : Post B G s d Q) : WP B A (binaryOp .Mult (.ref a1) (.int i t)) Q E s := by
  unfold lstMul at h; dsimp only at h
  by_cases hs : -(2 ^ 63 : Int) ≤ i ∧ i < 2 ^ 63 ∧ d1.length * i.toNat ≤ 2 ^ 24
  · rw [if_pos hs] at h; cases h
    have e1 : i1.size = d1.length := by rw [← r1.length, Array.length_toList]
    refine ⟨wpAny_binaryOp_repeat_ref (T := "list") (U := "int") (by decide) ⟨_, h1, rfl⟩ (fun s' => typeIs_int s' i t) noFill_list_mul F.fills_int_mul F.slot_int_rmul repeat_list F.slot_int_index.lookup
      (call_meets F.slot_int_rmul (typeIs_int s i t) F.entry_int_rmul (F.args_int_rmul_2 _ _) (int___rmul___int_list i t a1 i1 n1)
        ⟨h1, rfl, ⟨_, h1, rfl⟩, call_meets F.slot_list_mul ⟨_, h1, rfl⟩ F.entry_list_mul (F.args_list_mul_2 _ _)
          (AutoListH.list___mul___list_int_3 a1 i1 n1 i t (by simp [Builtin.List.listFitsIndex]; omega) (by rw [e1]; omega) (by rw [e1]; simp [Builtin.List.listTooLong, sizeLine]; omega))
          ⟨h1, hQ.newL st ?_⟩⟩)⟩
    rw [foldl_arr, List.map_replicate]
    by_cases hm : i1.isEmpty = true
    · have hn : d1 = [] := by
        have : i1.size = 0 := by simpa using hm
        rw [e1] at this; exact List.length_eq_zero_iff.mp this
      subst hn
      simp only [hm, if_true, List.replicate_zero, List.flatten_nil]
      have : (List.replicate i.toNat ([] : List D)).flatten = [] := by simp
      rw [this]; exact .nil
    · simp only [hm]
      exact r1.flat _
  · rw [if_neg hs] at h; cases h

theorem binop_ok {op : Operator} {x y : Value} {a b d : D} (st : St B G s) (hx : Rd G s.heap x a) (hy : Rd G s.heap y b) (h : binop op a b = some d)
    (hQ : Post B G s d Q) : WP B A (binaryOp op x y) Q E s := by
  unfold binop at h
  split at h
  · rename_i hb
    rw [intOf1_eq hb] at hy
    refine hy.intK fun u => ?_
    split at h
    · rename_i ha
      rw [intOf1_eq ha] at hx
      exact hx.intK fun t => intOp_ok st h hQ
    · split at h
      · rename_i ha
        rw [fltOf1_eq ha] at hx
        exact ifF h fun hi h => hx.fltK fun t _ _ _ => fiOp_ok st hi h hQ
      · split at h
        · rename_i ha
          rw [lstOf1_eq ha] at hx
          exact hx.lstK fun _ _ _ _ h1 r1 => by cases op <;> first | exact nsd h | exact mulLst_ok st h1 r1 h hQ
        · exact nsd h
  · split at h
    · rename_i hb
      rw [fltOf1_eq hb] at hy
      refine hy.fltK fun u _ _ _ => ?_
      split at h
      · rename_i ha
        rw [fltOf1_eq ha] at hx
        exact hx.fltK fun t _ _ _ => fltOp_ok st h hQ
      · split at h
        · rename_i ha
          rw [intOf1_eq ha] at hx
          exact ifF h fun hi h => hx.intK fun t => ifOp_ok st hi h hQ
        · exact nsd h
    · split at h
      · rename_i hp
        obtain ⟨ha, hb⟩ := both_eq hp
        rw [strOf1_eq ha] at hx; rw [strOf1_eq hb] at hy
        exact hx.strK fun t => hy.strK fun u => by cases op <;> first | exact nsd h | exact addStr_ok st h hQ
      · split at h
        · rename_i hp
          obtain ⟨ha, hb⟩ := both_eq hp
          rw [lstOf1_eq ha] at hx; rw [lstOf1_eq hb] at hy
          exact hx.lstK fun _ _ _ _ h1 r1 => hy.lstK fun _ _ _ _ h2 r2 => by cases op <;> first | exact nsd h | exact addLst_ok st h1 h2 r1 r2 h hQ
        · exact nsd h
end
end Mine

end
section
open PySem PySem.W PyProof.Rows
set_option Elab.async false
namespace Mine
open PySem.SeqAt

noncomputable def eqAll (f : D → D → Option Bool) : List D → List D → Option Bool
  | [], [] => some true
  | x :: xs, y :: ys => match f x y with
    | some a => match eqAll f xs ys with
      | some b => some (a && b)
      | none => none
    | none => none
  | _, _ => none

noncomputable def isNone : D → Bool
  | .none => true
  | _ => false
theorem isNone_eq {d : D} (h : isNone d = true) : d = .none := by cases d <;> first | exact nft h | rfl
noncomputable def eqFl (x y : UInt64) : Option Bool := if Float64.isNaN x = true then none else some (Float64.cmp x y == some .eq)
noncomputable def eqL (rec : D → D → Option Bool) (xs ys : List D) : Option Bool := if xs.length = ys.length then eqAll rec xs ys else some false
noncomputable def eqS (rec : D → D → Option Bool) (a b : D) : Option Bool := match both (intOf1 a) (intOf1 b) with
  | some p => some (p.1 == p.2)
  | none => match both (strOf1 a) (strOf1 b) with
    | some p => some (p.1 == p.2)
    | none => match both (lstOf1 a) (lstOf1 b) with
      | some p => eqL rec p.1 p.2
      | none => match both (fltOf1 a) (fltOf1 b) with
        | some p => eqFl p.1 p.2
        | none => match both (tupOf1 a) (tupOf1 b) with
          | some p => eqAll rec p.1 p.2
          | none => match both (boolOf1 a) (boolOf1 b) with
            | some p => some (p.1 == p.2)
            | none => match isNone a && isNone b with
              | true => some true
              | false => none
theorem eqS_inv {rec : D → D → Option Bool} {P : D → D → Bool → Prop} {a b : D} {r : Bool} (h : eqS rec a b = some r) (ki : ∀ x y, P (.int x) (.int y) (x == y)) (ks : ∀ x y, P (.str x) (.str y) (x == y)) (kl : ∀ x y r, eqL rec x y = some r → P (.lst x) (.lst y) r)
    (kf : ∀ x y r, eqFl x y = some r → P (.flt x) (.flt y) r) (kt : ∀ x y r, eqAll rec x y = some r → P (.tup x) (.tup y) r) (kb : ∀ x y, P (.bool x) (.bool y) (x == y)) (kn : P .none .none true) : P a b r := by
  unfold eqS at h
  split at h
  · rename_i hp; rw [intOf1_eq (both_eq hp).1, intOf1_eq (both_eq hp).2, ← Option.some.inj h]; exact ki _ _
  · split at h
    · rename_i hp; rw [strOf1_eq (both_eq hp).1, strOf1_eq (both_eq hp).2, ← Option.some.inj h]; exact ks _ _
    · split at h
      · rename_i hp; rw [lstOf1_eq (both_eq hp).1, lstOf1_eq (both_eq hp).2]; exact kl _ _ _ h
      · split at h
        · rename_i hp; rw [fltOf1_eq (both_eq hp).1, fltOf1_eq (both_eq hp).2]; exact kf _ _ _ h
        · split at h
          · rename_i hp; rw [tupOf1_eq (both_eq hp).1, tupOf1_eq (both_eq hp).2]; exact kt _ _ _ h
          · split at h
            · rename_i hp; rw [boolOf1_eq (both_eq hp).1, boolOf1_eq (both_eq hp).2, ← Option.some.inj h]; exact kb _ _
            · split at h
              · rename_i hp
                rw [Bool.and_eq_true] at hp
                rw [isNone_eq hp.1, isNone_eq hp.2, ← Option.some.inj h]; exact kn
              · exact nsd h
noncomputable def eqD : Nat → D → D → Option Bool
  | 0, _, _ => none
  | n + 1, a, b => eqS (eqD n) a b
theorem eqAll_inv {f : D → D → Option Bool} {x y : D} {xs ys : List D} {r : Bool} (h : eqAll f (x :: xs) (y :: ys) = some r) : ∃ a b, f x y = some a ∧ eqAll f xs ys = some b ∧ (a && b) = r := by
  unfold eqAll at h
  split at h
  · split at h
    · exact ⟨_, _, ‹_›, ‹_›, Option.some.inj h⟩
    · exact nsd h
  · exact nsd h

theorem eqAll_get {f : D → D → Option Bool} : ∀ {xs ys : List D} {r : Bool}, eqAll f xs ys = some r →
    xs.length = ys.length ∧ ∃ e : Nat → Bool, r = (List.range xs.length).all e ∧ ∀ i x y, xs[i]? = some x → ys[i]? = some y → f x y = some (e i)
  | [], [], r, h => ⟨rfl, fun _ => true, (Option.some.inj h).symm, fun _ _ _ hx => nsd hx⟩
  | x :: xs, y :: ys, r, h => by
    obtain ⟨a, b, hf, hr, rfl⟩ := eqAll_inv h
    obtain ⟨hl, e, hb, he⟩ := eqAll_get hr
    refine ⟨congrArg (· + 1) hl, fun i => match i with | 0 => a | i + 1 => e i, ?_, fun i => ?_⟩
    · rw [List.length_cons, List.range_succ_eq_map, List.all_cons, List.all_map, hb]; rfl
    · cases i with
      | zero => exact fun x' y' hx hy => Option.some.inj hx ▸ Option.some.inj hy ▸ hf
      | succ i => exact fun x' y' hx hy => he i x' y' hx hy
  | [], _ :: _, _, h => nsd h
  | _ :: _, [], _, h => nsd h

theorem LstAt.fn {h : Heap} {a : Addr} {i j : Array Value} {n m : Nat} (x : LstAt h a i n) (y : LstAt h a j m) : i = j := by
  have e := Option.some.inj (x.symm.trans y); injection e with e1 e2 e3; injection e3
theorem TupAt.fn {h : Heap} {a : Addr} {i j : Array Value} {n m : Nat} (x : TupAt h a i n) (y : TupAt h a j m) : i = j := by
  have e := Option.some.inj (x.symm.trans y); injection e with e1 e2 e3; injection e3

theorem eqAll_same {G : Gh} {h : Heap} {f : D → D → Option Bool} (hf : ∀ {v a b r}, Rd G h v a → Rd G h v b → f a b = some r → r = true) : ∀ {xs ys : List D} {vs : List Value} {r : Bool}, RdL G h vs xs → RdL G h vs ys → eqAll f xs ys = some r → r = true
  | [], [], _, _, _, _, h => (Option.some.inj h).symm
  | [], _ :: _, _, _, _, _, h => nsd h
  | _ :: _, [], _, _, _, _, h => nsd h
  | x :: xs, y :: ys, _, r, r1, r2, h => by
    revert r2
    refine r1.consK fun v vs x1 xs1 r2 => ?_
    obtain ⟨a, b, ha, hb, rfl⟩ := eqAll_inv h
    rw [hf x1 r2.consV.1 ha, eqAll_same hf xs1 r2.consV.2 hb]; rfl
theorem flt_same {x : UInt64} {r : Bool} (h : eqFl x x = some r) : r = true :=
  ifF h fun hn h => by
    rw [← Option.some.inj h, PySem.Flt.cmp_self]; simpa using hn
theorem tup_same {G : Gh} {h : Heap} {f : D → D → Option Bool} (hf : ∀ {v a b r}, Rd G h v a → Rd G h v b → f a b = some r → r = true) {v : Value} {x y : List D} {r : Bool} (ra : Rd G h v (.tup x)) (rb : Rd G h v (.tup y)) (h : eqAll f x y = some r) : r = true := by
  revert rb; refine ra.tupK fun _ _ _ _ h1 r1 rb => ?_
  obtain ⟨_, _, h2, r2⟩ := rb.tupV
  have e := TupAt.fn h1 h2; subst e
  exact eqAll_same hf r1 r2 h
theorem lst_same {G : Gh} {h : Heap} {f : D → D → Option Bool} (hf : ∀ {v a b r}, Rd G h v a → Rd G h v b → f a b = some r → r = true) {v : Value} {x y : List D} {r : Bool} (ra : Rd G h v (.lst x)) (rb : Rd G h v (.lst y)) (h : eqL f x y = some r) : r = true := by
  revert rb; refine ra.lstK fun _ _ _ _ h1 r1 rb => ?_
  obtain ⟨_, _, h2, r2⟩ := rb.lstV
  have e := LstAt.fn h1 h2; subst e
  unfold eqL at h
  rw [if_pos (r1.length.symm.trans r2.length)] at h
  exact eqAll_same hf r1 r2 h
theorem eqS_same {G : Gh} {H : Heap} {f : D → D → Option Bool} (hf : ∀ {v a b r}, Rd G H v a → Rd G H v b → f a b = some r → r = true) {v : Value} {a b : D} {r : Bool} (ra : Rd G H v a) (rb : Rd G H v b) (h : eqS f a b = some r) : r = true :=
  eqS_inv (P := fun a b r => Rd G H v a → Rd G H v b → r = true) h
    (fun x y ra => ra.intK (P := fun v => Rd G H v (.int y) → _) fun t rb => by rw [D.int.inj rb.vinv]; exact beq_self_eq_true _)
    (fun x y ra => ra.strK (P := fun v => Rd G H v (.str y) → _) fun t rb => by rw [D.str.inj rb.vinv]; exact beq_self_eq_true _)
    (fun x y r h ra rb => lst_same hf ra rb h)
    (fun x y r h ra => ra.fltK (P := fun v => Rd G H v (.flt y) → _) fun t _ _ _ rb => flt_same (x := x) (by rw [D.flt.inj (show D.flt y = D.flt x from rb.vinv)] at h; exact h))
    (fun x y r h ra rb => tup_same hf ra rb h)
    (fun x y ra => ra.boolK (P := fun v => Rd G H v (.bool y) → _) fun rb => by rw [D.bool.inj rb.vinv]; exact beq_self_eq_true _)
    (fun _ _ => rfl) ra rb
theorem eqD_same {G : Gh} {h : Heap} : ∀ {n : Nat} {v : Value} {a b : D} {r : Bool}, Rd G h v a → Rd G h v b → eqD n a b = some r → r = true
  | 0, _, _, _, _, _, _, h => nsd h
  | n + 1, _, _, _, _, ra, rb, h => eqS_same (f := eqD n) (fun x y q => eqD_same x y q) ra rb h
theorem eqAll_cong {G : Gh} {h : Heap} {f : D → D → Option Bool} (hf : ∀ {v a b x r r'}, Rd G h v a → Rd G h v b → f a x = some r → f b x = some r' → r = r') : ∀ {xs ys zs : List D} {vs : List Value} {r r' : Bool}, RdL G h vs xs → RdL G h vs ys → eqAll f xs zs = some r → eqAll f ys zs = some r' → r = r'
  | [], _, [], _, _, _, r1, r2, h, h' => Option.some.inj (h.symm.trans (by rw [List.length_eq_zero_iff.mp (r2.length.symm.trans r1.length)] at h'; exact h'))
  | [], _, _ :: _, _, _, _, _, _, h, _ => nsd h
  | _ :: _, _, [], _, _, _, _, _, h, _ => nsd h
  | _ :: _, [], _ :: _, _, _, _, _, _, _, h' => nsd h'
  | x :: xs, y :: ys, z :: zs, _, r, r', r1, r2, h, h' => by
    revert r2
    refine r1.consK fun v vs x1 xs1 r2 => ?_
    obtain ⟨a, b, ha, hb, rfl⟩ := eqAll_inv h
    obtain ⟨a', b', ha', hb', rfl⟩ := eqAll_inv h'
    rw [show a = a' from hf x1 r2.consV.1 ha ha', show b = b' from eqAll_cong (f := f) hf xs1 r2.consV.2 hb hb']
theorem lst_cong {G : Gh} {h : Heap} {f : D → D → Option Bool} (hf : ∀ {v a b x r r'}, Rd G h v a → Rd G h v b → f a x = some r → f b x = some r' → r = r') {vs : List Value} {xs ys zs : List D} {r r' : Bool} (r1 : RdL G h vs xs) (r2 : RdL G h vs ys)
    (h : eqL f xs zs = some r) (h' : eqL f ys zs = some r') : r = r' := by
  unfold eqL at h h'
  rw [← r1.length] at h
  rw [← r2.length] at h'
  by_cases hl : vs.length = zs.length
  · rw [if_pos hl] at h h'
    exact eqAll_cong (f := f) hf r1 r2 h h'
  · rw [if_neg hl] at h h'
    exact Option.some.inj (h.symm.trans h')
theorem eqS_cong {G : Gh} {H : Heap} {f : D → D → Option Bool} (hf : ∀ {v a b x r r'}, Rd G H v a → Rd G H v b → f a x = some r → f b x = some r' → r = r') {v : Value} {a b x : D} {r r' : Bool} (ra : Rd G H v a) (rb : Rd G H v b) (h : eqS f a x = some r) (h' : eqS f b x = some r') : r = r' :=
  eqS_inv (P := fun a x r => Rd G H v a → eqS f b x = some r' → r = r') h
    (fun x y ra h' => by rw [show b = .int x from (ra.intK (P := fun v => Rd G H v b → b = .int x) fun t rb => rb.vinv) rb] at h'; exact Option.some.inj h')
    (fun x y ra h' => by rw [show b = .str x from (ra.strK (P := fun v => Rd G H v b → b = .str x) fun t rb => rb.vinv) rb] at h'; exact Option.some.inj h')
    (fun x y r h ra h' => by
      revert rb; refine ra.lstK fun _ _ _ _ h1 r1 rb => ?_
      cases b <;> first | exact nsd h' | skip
      obtain ⟨_, _, h2, r2⟩ := rb.lstV
      have e := LstAt.fn h1 h2; subst e
      exact lst_cong (f := f) hf r1 r2 h h')
    (fun x y r h ra h' => by rw [show b = .flt x from (ra.fltK (P := fun v => Rd G H v b → b = .flt x) fun t _ _ _ rb => rb.vinv) rb] at h'; exact Option.some.inj (h.symm.trans h'))
    (fun x y r h ra h' => by
      revert rb; refine ra.tupK fun _ _ _ _ h1 r1 rb => ?_
      cases b <;> first | exact nsd h' | skip
      obtain ⟨_, _, h2, r2⟩ := rb.tupV
      have e := TupAt.fn h1 h2; subst e
      exact eqAll_cong (f := f) hf r1 r2 h h')
    (fun x y ra h' => by rw [show b = .bool x from (ra.boolK (P := fun v => Rd G H v b → b = .bool x) fun rb => rb.vinv) rb] at h'; exact Option.some.inj h')
    (fun ra h' => by rw [show b = .none from (ra.noneK (P := fun v => Rd G H v b → b = .none) fun rb => rb.vinv) rb] at h'; exact Option.some.inj h') ra h'
theorem eqD_cong {G : Gh} {h : Heap} : ∀ {n : Nat} {v : Value} {a b x : D} {r r' : Bool}, Rd G h v a → Rd G h v b → eqD n a x = some r → eqD n b x = some r' → r = r'
  | 0, _, _, _, _, _, _, _, _, h, _ => nsd h
  | n + 1, _, _, _, _, _, _, ra, rb, h, h' => eqS_cong (f := eqD n) (fun x y q q' => eqD_cong x y q q') ra rb h h'

section
variable {B : Bs} {A : Around} {G : Gh} {s : Shared}
theorem EqAt_flt (st : St B G s) {x y : UInt64} {t u : Tok} (t0 : 0 < t) (u0 : 0 < u) (ht : G.τ t = x) (hu : G.τ u = y) (hn : ¬ Float64.isNaN x = true) :
    EqAt A s (.float x t) (.float y u) (Float64.cmp x y == some .eq) := by
  intro prog w E Q hq
  have self : x = y → Q true s := fun e => by
    subst e
    have : (Float64.cmp x x == some Ordering.eq) = true := by rw [PySem.Flt.cmp_self]; simpa using hn
    rw [this] at hq; exact hq
  unfold eqBool
  refine @wpAny_holding _ _ _ _ _ _ _ _ (@wpAny_ite _ _ _ _ _ _ _ _ _ _ ?_)
  by_cases e : ((Value.float x t) == (Value.float y u)) = true
  · rw [if_pos e]
    have := eq_of_beq e
    injection this with e1 e2
    exact @wpAny_bind _ _ _ _ _ _ _ _ _ (@wpAny_rule _ _ _ _ _ _ (@wpAny_pure _ _ _ _ _ _ _ (self e1)))
  · rw [if_neg e]
    have tail : wpAny (model prog w) A (do truthOfDropped (← richCompare .Eq (.float x t) (.float y u))) Q E s := @wpAny_bind _ _ _ _ _ _ _ _ _ (@AutoFloatOps.eq_0 _ _ _ _ _ _ _ _ _ _ (@wpAny_truthy_bool _ _ _ _ _ _ hq))
    refine @wpAny_bind _ _ _ _ _ _ _ _ _ ?_
    show wpAny _ _ (isSame.created (x == y && !Float64.isNaN x) t u) _ _ s
    unfold isSame.created
    refine @wpAny_ite _ _ _ _ _ _ _ _ _ _ ?_
    rw [if_neg (show ¬ (t == 0 || u == 0) = true by have h1 : t ≠ 0 := Nat.ne_of_gt t0; have h2 : u ≠ 0 := Nat.ne_of_gt u0; simp [h1, h2])]
    refine @wpAny_ite _ _ _ _ _ _ _ _ _ _ ?_
    by_cases htu : (t == u) = true
    · rw [if_pos htu]
      have hx : t = u := by simpa using htu
      subst hx
      refine @wpAny_pure _ _ _ _ _ _ _ ?_
      rw [if_pos rfl]
      exact @wpAny_pure _ _ _ _ _ _ _ (self (ht.symm.trans hu))
    · rw [if_neg htu]
      refine @wpAny_ite _ _ _ _ _ _ _ _ _ _ ?_
      by_cases hc : (x == y && !Float64.isNaN x) = true
      · rw [if_neg (by simpa using hc)]
        have hxy : x = y := by simp at hc; exact hc.1
        refine @wpAny_bind _ _ _ _ _ _ _ _ _ (@wpAny_sharingNotTold_none _ _ _ _ _ _ st.nb ?_)
        simp only [Bool.false_eq_true, if_false]
        refine @wpAny_bind _ _ _ _ _ _ _ _ _ (@wpAny_sharingNotTold_none _ _ _ _ _ _ st.nb ?_)
        simp only [Bool.false_eq_true, if_false]
        refine @wpAny_bind _ _ _ _ _ _ _ _ _ (@wpAny_rule _ _ _ _ _ _ (@wpAny_bind _ _ _ _ _ _ _ _ _ (@wpAny_askSetting _ _ _ _ _ (@wpAny_pure _ _ _ _ _ _ _ ?_))))
        refine @wpAny_ite _ _ _ _ _ _ _ _ _ _ ?_
        split
        · exact @wpAny_pure _ _ _ _ _ _ _ (self hxy)
        · exact tail
      · rw [if_pos (show (!(x == y && !Float64.isNaN x)) = true by rw [Bool.not_eq_true] at hc; rw [hc]; rfl)]
        refine @wpAny_pure _ _ _ _ _ _ _ ?_
        rw [if_neg Bool.false_ne_true]
        exact tail

structure EqOk (A : Around) (s : Shared) (x y : Value) (r : Bool) : Prop where
  eq : EqAt A s x y r
  rc : RcAt A s x y r
  ne : RcNeAt A s x y (!r)

theorem smQ {A : Around} {s : Shared} {x y : Value} {r r' : Bool} (h : some r = some r') (q : EqOk A s x y r) : EqOk A s x y r' := Option.some.inj h ▸ q
theorem items_ok {A : Around} {s : Shared} {i1 i2 : Array Value} {d1 d2 : List D} {e : Nat → Bool} {f : D → D → Option Bool} (r1 : RdL G s.heap i1.toList d1) (r2 : RdL G s.heap i2.toList d2)
    (he : ∀ i x y, d1[i]? = some x → d2[i]? = some y → f x y = some (e i))
    (hf : ∀ {x y a b r}, Rd G s.heap x a → Rd G s.heap y b → f a b = some r → EqAt A s x y r) :
    ∀ j (h1 : j < i1.size) (h2 : j < i2.size), EqAt A s i1[j] i2[j] (e j) := by
  intro j h1 h2
  obtain ⟨a, ha, ra⟩ := r1.getv (i := j) (v := i1[j]) (by simp [h1])
  obtain ⟨b, hb, rb⟩ := r2.getv (i := j) (v := i2[j]) (by simp [h2])
  exact hf ra rb (he j a b ha hb)

theorem tup_eq {L : Nat} {f : D → D → Option Bool} {a1 a2 : Addr} {i1 i2 : Array Value} {n1 n2 : Nat} {d1 d2 : List D} {r : Bool} (hf : ∀ {A x y a b r}, A.units + L < cLine → Rd G s.heap x a → Rd G s.heap y b → f a b = some r → EqAt A s x y r)
    (h1 : TupAt s.heap a1 i1 n1) (r1 : RdL G s.heap i1.toList d1) (h2 : TupAt s.heap a2 i2 n2) (r2 : RdL G s.heap i2.toList d2) (hu : A.units + (L + 1) < cLine) (h : eqAll f d1 d2 = some r) (hs : a1 = a2 → r = true) : EqOk A s (.ref a1) (.ref a2) r := by
  obtain ⟨hl, e, he, hg⟩ := eqAll_get h
  have hit := items_ok (A := A.in1) r1 r2 hg fun rx ry hr => hf (by show A.units + 1 + L < cLine; omega) rx ry hr
  have hu' : A.units < cLine := by omega
  have er : ((List.range (min i1.size i2.size)).all e && i1.size == i2.size) = r := by rw [r1.size, r2.size, ← hl, Nat.min_self, he]; simp
  have rc := RcAt.tuples (TupAt.is h1) (TupAt.is h2) hu' hit
  have ne := RcNeAt.tuples (TupAt.is h1) (TupAt.is h2) hu' hit
  rw [er] at rc ne
  refine ⟨?_, rc, ne⟩
  by_cases hab : a1 = a2
  · rw [hs hab, hab]; exact EqAt.same _
  · exact EqAt.of_refs hab rc
theorem lst_eq {L : Nat} {f : D → D → Option Bool} {a1 a2 : Addr} {i1 i2 : Array Value} {n1 n2 : Nat} {d1 d2 : List D} {r : Bool} (hf : ∀ {A x y a b r}, A.units + L < cLine → Rd G s.heap x a → Rd G s.heap y b → f a b = some r → EqAt A s x y r)
    (h1 : LstAt s.heap a1 i1 n1) (r1 : RdL G s.heap i1.toList d1) (h2 : LstAt s.heap a2 i2 n2) (r2 : RdL G s.heap i2.toList d2) (hu : A.units + (L + 1) < cLine) (h : eqL f d1 d2 = some r) (hs : a1 = a2 → r = true) : EqOk A s (.ref a1) (.ref a2) r := by
  unfold eqL at h
  have hu' : A.units < cLine := by omega
  have both : RcAt A s (.ref a1) (.ref a2) r ∧ RcNeAt A s (.ref a1) (.ref a2) (!r) := by
    by_cases hlen : d1.length = d2.length
    · rw [if_pos hlen] at h
      obtain ⟨hl, e, he, hg⟩ := eqAll_get h
      have hit := items_ok (A := A.in1) r1 r2 hg fun rx ry hr => hf (by show A.units + 1 + L < cLine; omega) rx ry hr
      have rc := RcAt.lists (LstAt.is h1) (LstAt.is h2) (by rw [r1.size, r2.size, hl]) hu' hit
      have ne := RcNeAt.lists (LstAt.is h1) (LstAt.is h2) (by rw [r1.size, r2.size, hl]) hu' hit
      rw [r1.size, ← he] at rc ne
      exact ⟨rc, ne⟩
    · rw [if_neg hlen] at h
      have hne : (i1.size != i2.size) = true := by rw [r1.size, r2.size]; simpa using hlen
      exact smK h ⟨RcAt.lists_lengths (LstAt.is h1) (LstAt.is h2) hne hu', RcNeAt.lists_lengths (LstAt.is h1) (LstAt.is h2) hne hu'⟩
  refine ⟨?_, both.1, both.2⟩
  by_cases hab : a1 = a2
  · rw [hs hab, hab]; exact EqAt.same _
  · exact EqAt.of_refs hab both.1
theorem flt_eq (st : St B G s) {x y : UInt64} {t u : Tok} {r : Bool} (t0 : 0 < t) (u0 : 0 < u) (ht : G.τ t = x) (hu : G.τ u = y) (h : eqFl x y = some r) : EqOk A s (.float x t) (.float y u) r :=
  ifF h fun hn h => Option.some.inj h ▸ ⟨EqAt_flt st t0 u0 ht hu hn, fun prog w E Q hq => @AutoFloatOps.eq_0 _ _ _ _ _ _ _ _ _ _ hq, fun prog w E Q hq => @AutoFloatOps.ne_0 _ _ _ _ _ _ _ _ _ _ hq⟩
theorem eqD_ok (st : St B G s) : ∀ {n : Nat} {A : Around} {x y : Value} {a b : D} {r : Bool}, Rd G s.heap x a → Rd G s.heap y b → eqD n a b = some r → A.units + n < cLine → EqOk A s x y r
  | 0, _, _, _, _, _, _, _, _, h, _ => nsd h
  | n + 1, A, x, y, a, b, r, hx, hy, h, hu =>
    eqS_inv (P := fun a b r => Rd G s.heap x a → Rd G s.heap y b → (x = y → r = true) → EqOk A s x y r) h
      (fun i j hx hy _ => hx.intK fun _ => hy.intK fun _ => ⟨EqAt.int_int _ _ _ _, RcAt.int_int _ _ _ _, RcNeAt.int_int _ _ _ _⟩)
      (fun i j hx hy _ => hx.strK fun _ => hy.strK fun _ => ⟨EqAt.str_str _ _ _ _, RcAt.str_str _ _ _ _, RcNeAt.str_str _ _ _ _⟩)
      (fun i j r h hx => hx.lstK (P := fun x => Rd G s.heap y (.lst j) → (x = y → r = true) → EqOk A s x y r) fun _ _ _ _ h1 r1 hy => hy.lstK (P := fun y => (_ = y → r = true) → EqOk A s _ y r) fun _ _ _ _ h2 r2 same =>
        lst_eq (fun q rx ry hr => (eqD_ok st rx ry hr q).eq) h1 r1 h2 r2 hu h fun e => same (e ▸ rfl))
      (fun i j r h hx hy _ => hx.fltK fun _ t0 _ ht => hy.fltK fun _ u0 _ hu => flt_eq st t0 u0 ht hu h)
      (fun i j r h hx => hx.tupK (P := fun x => Rd G s.heap y (.tup j) → (x = y → r = true) → EqOk A s x y r) fun _ _ _ _ h1 r1 hy => hy.tupK (P := fun y => (_ = y → r = true) → EqOk A s _ y r) fun _ _ _ _ h2 r2 same =>
        tup_eq (fun q rx ry hr => (eqD_ok st rx ry hr q).eq) h1 r1 h2 r2 hu h fun e => same (e ▸ rfl))
      (fun i j hx hy _ => hx.boolK (hy.boolK ⟨EqAt.bool_bool _ _, RcAt.bool_bool _ _, RcNeAt.bool_bool _ _⟩))
      (fun hx hy _ => hx.noneK (hy.noneK ⟨EqAt.same _, RcAt.none_none, RcNeAt.none_none⟩)) hx hy (fun e => eqD_same (n := n + 1) hx (e ▸ hy) h)
end
end Mine

end
section
open PySem PySem.W PyProof.Rows
set_option Elab.async false
namespace Mine
open PySem.SeqAt

noncomputable def anyEq (x : D) : List D → Option Bool
  | [] => some false
  | y :: ys => match eqD 8 y x with
    | some a => match anyEq x ys with
      | some b => some (a || b)
      | none => none
    | none => none
noncomputable def ltD (a b : D) : Option Bool := (both (intOf1 a) (intOf1 b)).map fun p => decide (p.1 < p.2)
noncomputable def leD (a b : D) : Option Bool := (both (intOf1 a) (intOf1 b)).map fun p => decide (p.1 ≤ p.2)
section
variable {G : Gh} {h : Heap} {x y : Value} {a b : D} {P : Value → Value → Prop}
theorem rd_ii {p : Int × Int} (hx : Rd G h x a) (hy : Rd G h y b) (e : both (intOf1 a) (intOf1 b) = some p) (k : ∀ t u, P (.int p.1 t) (.int p.2 u)) : P x y := by
  rw [intOf1_eq (both_eq e).1] at hx; rw [intOf1_eq (both_eq e).2] at hy
  exact hx.intK fun t => hy.intK fun u => k t u
end
noncomputable def inD (a b : D) : Option Bool := orE (both (strOf1 a) (strOf1 b)) (fun p => some (Txt.contains p.2 p.1)) ((lstOf1 b).bind (anyEq a))
noncomputable def typOf1 : D → Option String
  | .typ a => some a
  | _ => none
theorem typOf1_eq {d : D} {x : String} (h : typOf1 d = some x) : d = .typ x := by cases d <;> first | exact nsd h | exact congrArg D.typ (Option.some.inj h)
noncomputable def isD (a b : D) : Option Bool := match isNone b with
  | true => some (isNone a)
  | false => match both (typOf1 a) (typOf1 b) with
    | some p => some (p.1 == p.2)
    | none => none
noncomputable def cmpD (op : CmpOp) (a b : D) : Option Bool := match op with
  | .Eq => eqD 8 a b
  | .NotEq => (eqD 8 a b).map not
  | .Lt => ltD a b
  | .LtE => leD a b
  | .In => inD a b
  | .NotIn => (both (strOf1 a) (strOf1 b)).map fun p => !Txt.contains p.2 p.1
  | .Is => isD a b
  | .IsNot => (isD a b).map not
  | _ => none
noncomputable def truth (d : D) : Option Bool := cond (isNone d) (some false) (orE (boolOf1 d) some (orE (intOf1 d) (fun i => some (i != 0)) ((lstOf1 d).bind fun xs => tst (decide ((xs.length : Int) < 2 ^ 63)) (some (!xs.isEmpty)))))
noncomputable def unop (op : UnaryOp) (a : D) : Option D := match op with
  | .USub => (intOf1 a).map fun i => .int (-i)
  | .Invert => (intOf1 a).map fun i => .int (Builtin.bitNot i)
  | .Not => (truth a).map fun b => .bool (!b)
  | _ => none
noncomputable def inpI (op : Operator) (i j : Int) : Option D := match op with
  | .Add => some (.int (i + j))
  | .Sub => some (.int (i - j))
  | .LShift => if 0 ≤ j ∧ (Builtin.Int.intBits i : Int) + j ≤ 2 ^ 27 then some (.int (i * 2 ^ j.toNat)) else none
  | .RShift => if 0 ≤ j then some (.int (i.fdiv (2 ^ j.toNat))) else none
  | _ => none
noncomputable def inpOp (op : Operator) (a b : D) : Option D := (both (intOf1 a) (intOf1 b)).bind fun p => inpI op p.1 p.2

section
variable {B : Bs} {A : Around} {G : Gh} {s : Shared} {Q : Value → Shared → Prop} {E : Value → Shared → Prop} {m : Nat}

theorem anyEq_inv {x y : D} {ys : List D} {r : Bool} (h : anyEq x (y :: ys) = some r) : ∃ a b, eqD 8 y x = some a ∧ anyEq x ys = some b ∧ (a || b) = r := by
  unfold anyEq at h
  split at h
  · split at h
    · exact ⟨_, _, ‹_›, ‹_›, Option.some.inj h⟩
    · exact nsd h
  · exact nsd h
theorem anyEq_get {x : D} : ∀ {ys : List D} {r : Bool}, anyEq x ys = some r → ∃ e : Nat → Bool, r = (List.range ys.length).any e ∧ ∀ (i : Nat) y, ys[i]? = some y → eqD 8 y x = some (e i)
  | [], r, h => ⟨fun _ => true, (Option.some.inj h).symm, fun _ _ hy => nsd hy⟩
  | y :: ys, r, h => by
    obtain ⟨a, b, hf, hr, rfl⟩ := anyEq_inv h
    obtain ⟨e, hb, he⟩ := anyEq_get hr
    refine ⟨fun i => match i with | 0 => a | i + 1 => e i, ?_, fun i => ?_⟩
    · rw [List.length_cons, List.range_succ_eq_map, List.any_cons, List.any_map, hb]; rfl
    · cases i with
      | zero => exact fun y' hy => Option.some.inj hy ▸ hf
      | succ i => exact fun y' hy => he i y' hy

theorem in_lst {x : Value} {a : D} {l : Addr} {items : Array Value} {n : Nat} {ds : List D} {r : Bool} (rm : Room m A) (st : St B G s) (hx : Rd G s.heap x a) (hl : LstAt s.heap l items n) (hd : RdL G s.heap items.toList ds)
    (h : anyEq a ds = some r) (hQ : Q (.bool r) s) : WP B A (compareOp .In x (.ref l)) Q E s := by
  obtain ⟨e, hr, he⟩ := anyEq_get h
  -- each value's answer: the answer at any of its places
  classical
  let f : Value → Bool := fun v => if hv : ∃ i : Nat, items.toList[i]? = some v then e hv.choose else false
  have hf : ∀ (i : Nat) v, items.toList[i]? = some v → f v = e i := by
    intro i v hi
    have hv : ∃ i : Nat, items.toList[i]? = some v := ⟨i, hi⟩
    have h1 : f v = e hv.choose := dif_pos hv
    obtain ⟨d1, hd1, r1⟩ := hd.getv hv.choose_spec
    obtain ⟨d2, hd2, r2⟩ := hd.getv hi
    rw [h1]; exact eqD_cong r1 r2 (he _ _ hd1) (he _ _ hd2)
  have hany : items.any f = r := by
    rw [hr, ← Array.any_toList]
    rw [Bool.eq_iff_iff, List.any_eq_true, List.any_eq_true]
    constructor
    · rintro ⟨v, hv, hfv⟩
      obtain ⟨i, hi⟩ := List.getElem?_of_mem hv
      have hlt : i < ds.length := by rw [← hd.length]; exact (List.getElem?_eq_some_iff.mp hi).1
      exact ⟨i, List.mem_range.mpr hlt, by rw [← hf i v hi]; exact hfv⟩
    · rintro ⟨i, hi, hei⟩
      have hlt : i < items.toList.length := by rw [hd.length]; exact List.mem_range.mp hi
      have hi' : items.toList[i]? = some items.toList[i] := List.getElem?_eq_getElem hlt
      exact ⟨items.toList[i], List.getElem_mem hlt, by rw [hf i _ hi']; exact hei⟩
  refine ⟨@in_listAt _ _ _ _ _ _ _ _ _ f (LstAt.is hl) (fun y hy => ?_) (by rw [hany]; exact hQ)⟩
  obtain ⟨i, hi⟩ := List.getElem?_of_mem (Array.mem_toList_iff.mpr hy)
  obtain ⟨d, hdi, rdi⟩ := hd.getv hi
  rw [hf i y hi]
  exact (eqD_ok st rdi hx (he i d hdi) (by have := rm.line; show A.units + 1 + 8 < cLine; omega)).eq

theorem lt_ok {x y : Value} {a b : D} {r : Bool} (hx : Rd G s.heap x a) (hy : Rd G s.heap y b) (h : ltD a b = some r) (hQ : Q (.bool r) s) : WP B A (compareOp .Lt x y) Q E s :=
  let ⟨_, e, h⟩ := map_inv h
  rd_ii (P := fun x y => WP B A (compareOp .Lt x y) Q E s) hx hy e fun t u => ⟨@PyProof.Rows.lt_int _ _ _ _ _ _ _ _ _ _ (smR h hQ)⟩
theorem le_ok {x y : Value} {a b : D} {r : Bool} (hx : Rd G s.heap x a) (hy : Rd G s.heap y b) (h : leD a b = some r) (hQ : Q (.bool r) s) : WP B A (compareOp .LtE x y) Q E s :=
  let ⟨_, e, h⟩ := map_inv h
  rd_ii (P := fun x y => WP B A (compareOp .LtE x y) Q E s) hx hy e fun t u => ⟨@PyProof.Rows.le_int _ _ _ _ _ _ _ _ _ _ (smR h hQ)⟩
theorem rd_ss {x y : Value} {a b : D} {p : Str × Str} {P : Value → Value → Prop} (hx : Rd G s.heap x a) (hy : Rd G s.heap y b) (e : both (strOf1 a) (strOf1 b) = some p) (k : ∀ t u, P (.str p.1 t) (.str p.2 u)) : P x y := by
  rw [strOf1_eq (both_eq e).1] at hx; rw [strOf1_eq (both_eq e).2] at hy
  exact hx.strK fun t => hy.strK fun u => k t u
theorem in_ok {x y : Value} {a b : D} {r : Bool} (rm : Room m A) (st : St B G s) (hx : Rd G s.heap x a) (hy : Rd G s.heap y b) (h : inD a b = some r) (hQ : Q (.bool r) s) : WP B A (compareOp .In x y) Q E s := by
  refine orE_inv h (fun p e h => ?_) fun h => ?_
  · exact rd_ss (P := fun x y => WP B A (compareOp .In x y) Q E s) hx hy e fun t u => ⟨@SB.contains _ _ _ _ _ _ _ _ _ _ (smR h hQ)⟩
  · obtain ⟨xs, hb, h⟩ := bnd h
    rw [lstOf1_eq hb] at hy
    exact hy.lstK fun _ _ _ _ hl hd => in_lst rm st hx hl hd h hQ
theorem typ_beq (n n' : String) : (Value.type n == Value.type n') = (n == n') := by rw [Bool.eq_iff_iff]; simp
theorem is_nn {x : Value} {a : D} (hx : Rd G s.heap x a) : isNone a = (x == Value.none) := by
  cases hx <;> rfl
theorem isD_ok {x y : Value} {a b : D} {r : Bool} (hx : Rd G s.heap x a) (hy : Rd G s.heap y b) (h : isD a b = some r) : (Q (.bool r) s → WP B A (compareOp .Is x y) Q E s) ∧ (Q (.bool (!r)) s → WP B A (compareOp .IsNot x y) Q E s) := by
  unfold isD at h
  split at h
  · rename_i hb
    rw [isNone_eq hb] at hy
    rw [← Option.some.inj h, is_nn hx]
    exact hy.noneK ⟨fun hQ => ⟨@is_none_gen _ _ _ _ _ _ hQ⟩, fun hQ => ⟨@isnot_none_gen _ _ _ _ _ _ hQ⟩⟩
  · split at h
    · rename_i hp
      rw [typOf1_eq (both_eq hp).1] at hx; rw [typOf1_eq (both_eq hp).2] at hy
      rw [← Option.some.inj h]
      exact hx.typK (hy.typK ⟨fun hQ => ⟨@wpAny_is_plain _ _ _ _ _ _ _ rfl (by rw [typ_beq]; exact hQ)⟩, fun hQ => ⟨@wpAny_isNot_plain _ _ _ _ _ _ _ rfl (by rw [typ_beq]; exact hQ)⟩⟩)
    · exact nsd h
theorem cmpD_ok {op : CmpOp} {x y : Value} {a b : D} {r : Bool} (rm : Room m A) (st : St B G s) (hx : Rd G s.heap x a) (hy : Rd G s.heap y b) (h : cmpD op a b = some r)
    (hQ : Q (.bool r) s) : WP B A (compareOp op x y) Q E s := by
  have hu : A.units + 8 < cLine := by have := rm.line; omega
  cases op <;> first | exact nsd h | skip
  case Eq => exact ⟨(eqD_ok st hx hy h hu).rc _ _ _ _ hQ⟩
  case NotEq =>
    obtain ⟨q, hr, h⟩ := map_inv h
    exact ⟨(eqD_ok st hx hy hr hu).ne _ _ _ _ (smR h hQ)⟩
  case Lt => exact lt_ok hx hy h hQ
  case LtE => exact le_ok hx hy h hQ
  case In => exact in_ok rm st hx hy h hQ
  case NotIn =>
    obtain ⟨p, e, h⟩ := map_inv h
    exact rd_ss (P := fun x y => WP B A (compareOp .NotIn x y) Q E s) hx hy e fun t u => ⟨@SB.notContains _ _ _ _ _ _ _ _ _ _ (smR h hQ)⟩
  case Is => exact (isD_ok hx hy h).1 hQ
  case IsNot =>
    obtain ⟨q, hi, h⟩ := map_inv h
    exact (isD_ok hx hy hi).2 (smR h hQ)

theorem truth_ok {x : Value} {a : D} {r : Bool} {Q : Bool → Shared → Prop} (st : St B G s) (hx : Rd G s.heap x a) (h : truth a = some r)
    (hQ : ∀ s', Ke B G s G s' → Q r s') : WP B A (truthy x) Q E s := by
  cases hn : isNone a with
  | true =>
    unfold truth at h
    rw [hn] at h
    rw [isNone_eq hn] at hx
    exact hx.noneK ⟨@truthy_none _ _ _ _ _ (smR h (hQ _ (.refl st)))⟩
  | false =>
  unfold truth at h
  rw [hn] at h
  refine orE_inv h (fun b e h => ?_) fun h => orE_inv h (fun i e h => ?_) fun h => ?_
  · rw [boolOf1_eq e] at hx
    exact hx.boolK ⟨@wpAny_truthy_bool _ _ _ _ _ _ (smR h (hQ _ (.refl st)))⟩
  · rw [intOf1_eq e] at hx
    exact hx.intK fun t => ⟨@PyProof.Rows.truthy_int _ _ _ _ _ _ _ _ (smR h (hQ _ (.refl st)))⟩
  · obtain ⟨ds, e, h⟩ := bnd h
    obtain ⟨hs, h⟩ := tst_inv h
    rw [lstOf1_eq e] at hx
    refine hx.lstK fun a items n _ hl hd => ?_
    have e := hd.size
    have e2 : (!items.isEmpty) = !ds.isEmpty := by
      cases ds with
      | nil => rw [Array.eq_empty_of_size_eq_zero e]; rfl
      | cons d ds =>
        rw [Array.isEmpty_eq_false_iff.mpr fun h => by rw [h] at e; cases e]; rfl
    exact ⟨@wpAny_truthy_list _ _ _ _ _ _ _ _ (LstAt.is hl) (by rw [e]; exact of_decide_eq_true hs) (by rw [e2]; exact smR h (hQ _ (.tok st (by omega))))⟩

theorem unop_ok {op : UnaryOp} {x : Value} {a d : D} (st : St B G s) (hx : Rd G s.heap x a) (h : unop op a = some d) (hQ : Post B G s d Q) : WP B A (unaryOp op x) Q E s := by
  cases op <;> first | exact nsd h | skip
  case USub =>
    obtain ⟨i, e, h⟩ := map_inv h
    rw [intOf1_eq e] at hx
    exact hx.intK fun t => ⟨@PyProof.Rows.neg_int _ _ _ _ _ _ _ _ ((hQ.of h).tok1 st (.int _ _))⟩
  case Invert =>
    obtain ⟨i, e, h⟩ := map_inv h
    rw [intOf1_eq e] at hx
    exact hx.intK fun t => ⟨@PyProof.Rows.invert_int _ _ _ _ _ _ _ _ ((hQ.of h).tok1 st (.int _ _))⟩
  case Not =>
    obtain ⟨b, ht, h⟩ := map_inv h
    exact ⟨@not_of _ _ _ _ _ _ (truth_ok (A := A) (E := E) st hx ht fun s' k => (hQ.of h) _ _ _ k (.bool _)).w⟩

theorem inpOp_ok {op : Operator} {x y : Value} {a b d : D} (st : St B G s) (hx : Rd G s.heap x a) (hy : Rd G s.heap y b) (h : inpOp op a b = some d) (hQ : Post B G s d Q) : WP B A (inplaceOp op x y) Q E s := by
  obtain ⟨p, e, h⟩ := bnd h
  refine rd_ii (P := fun x y => WP B A (inplaceOp op x y) Q E s) hx hy e fun t u => ?_
  cases op <;> first | exact nsd h | skip
  case Add => exact ⟨@PyProof.Rows.iadd_int _ _ _ _ _ _ _ _ _ _ ((hQ.of h).tok1 st (.int _ _))⟩
  case Sub => exact ⟨@PyProof.Rows.isub_int _ _ _ _ _ _ _ _ _ _ ((hQ.of h).tok1 st (.int _ _))⟩
  case LShift => exact ifT h fun hc h => ⟨@PyProof.Rows.ilshift_int _ _ _ _ _ _ _ _ _ _ hc.1 hc.2 ((hQ.of h).tok1 st (.int _ _))⟩
  case RShift => exact ifT h fun hc h => ⟨@PyProof.Rows.irshift_int _ _ _ _ _ _ _ _ _ _ hc ((hQ.of h).tok1 st (.int _ _))⟩
end
end Mine

end
section
open PySem PySem.W PyProof.Rows
set_option Elab.async false
namespace Mine

noncomputable def ownedT (n : String) : Bool := ["enumerate", "zip", "dict_itemiterator", "dict_reverseitemiterator", "odict_iterator", "itertools.zip_longest", "itertools.pairwise"].contains n

inductive SrcIs (B : Bs) (A : Around) (I : Addr) (G : Gh) (s : Shared) (xs : List D) : Prop
  | mk (fp : List Addr) (n i : Nat) (P : Nat → Value → Prop) (S : Nat → Heap → Prop)
    (W : Walks B.prog B.w A I fp [I] n P S) (hS : S i s.heap) (hn : i + xs.length = n) (hfp : ∀ b ∈ fp, b = I ∨ (b ∉ G.O ∧ b < s.heap.objs.size)) (hP : ∀ j v d, P (i + j) v → xs[j]? = some d → Rd G s.heap v d)
    (hob : ∀ j h, S j h → ∃ o T, h.get? I = some o ∧ o.cls = .type T ∧ ownedT T = false ∧ T ≠ "code") : SrcIs B A I G s xs
structure Src (B : Bs) (A : Around) (I : Addr) (G : Gh) (s : Shared) (xs : List D) : Prop where
  has : SrcIs B A I G s xs

section
variable {B : Bs} {A : Around} {G : Gh} {s : Shared} {I : Addr} {xs : List D} {x : D} {E : Value → Shared → Prop}

theorem Src.next (src : Src B A I G s (x :: xs)) (st : St B G s) (hI : I ∈ G.O) (hIt : I ∉ B.tb) {Q : Option Value → Shared → Prop}
    (hQ : ∀ v s', Kw B [I] G s G s' → Rd G s'.heap v x → Src B A I G s' xs → Q (some v) s') : WP B A (pyNext (.ref I)) Q E s := by
  obtain ⟨fp, n, i, P, S, W, hS, hn, hfp, hP, hob⟩ := src.has
  refine WP.mt ⟨W.item i s _ _ (by rw [List.length_cons] at hn; omega) hS fun v h' tk hv hS' hk htk hsz => ?_⟩
  have kw : Kw B [I] G s G { s with heap := h', toks := tk } := Kw.one st (a := I) (List.mem_singleton.mpr rfl) hIt (fun b o hb e => hk b o (by simpa using hb) e) hsz htk (by obtain ⟨o, T, ho, hc, _, hT⟩ := hob i _ hS; exact NC.cls ho (by rw [hc]; intro q; exact hT (Value.type.inj q)))
  have up := kw.up st (fun a ha => by rw [List.mem_singleton.mp ha]; exact hI)
  refine hQ v _ kw ((hP 0 v x hv rfl).up up) ⟨fp, n, i + 1, P, S, W, hS', by rw [List.length_cons] at hn; omega, fun b hb => ?_, fun j v d hv hd => ?_, hob⟩
  · exact (hfp b hb).imp id fun h => ⟨h.1, Nat.lt_of_lt_of_le h.2 hsz⟩
  · exact (hP (j + 1) v d (by rw [← Nat.add_assoc, Nat.add_right_comm]; exact hv) (by simpa using hd)).up up

theorem Src.done (src : Src B A I G s []) (st : St B G s) (hIt : I ∉ B.tb) {Q : Option Value → Shared → Prop} (hQ : ∀ s', Kw B [I] G s G s' → Q none s') : WP B A (pyNext (.ref I)) Q E s := by
  obtain ⟨fp, n, i, P, S, W, hS, hn, hfp, hP, hob⟩ := src.has
  have hn' : i = n := by simpa using hn
  subst hn'
  exact WP.mt ⟨W.done s _ _ hS fun h' tk hk htk hsz => hQ _ (Kw.one st (a := I) (List.mem_singleton.mpr rfl) hIt (fun b o hb e => hk b o (by simpa using hb) e) hsz htk (by obtain ⟨o, T, ho, hc, _, hT⟩ := hob i _ hS; exact NC.cls ho (by rw [hc]; intro q; exact hT (Value.type.inj q))))⟩

theorem Src.self (src : Src B A I G s xs) {Q : Value → Shared → Prop} (hQ : Q (.ref I) s) : WP B A (pyIter (.ref I)) Q E s := by
  obtain ⟨fp, n, i, P, S, W, hS, _⟩ := src.has
  exact ⟨W.self i s _ _ hS hQ⟩

theorem Src.kw {W : List Addr} {G' : Gh} {s' : Shared} (src : Src B A I G s xs) (st : St B G s) (k : Kw B W G s G' s') (hW : ∀ a ∈ W, a ∈ G.O) (hI : I ∉ W) (hIt : I ∉ B.tb) : Src B A I G' s' xs := by
  obtain ⟨fp, n, i, P, S, W', hS, hn, hfp, hP, hob⟩ := src.has
  have up := k.up st hW
  refine ⟨fp, n, i, P, S, W', W'.frame i _ _ hS fun b hb o e => ?_, hn, fun b hb => (hfp b hb).imp id fun h => ⟨k.o ▸ h.1, Nat.lt_of_lt_of_le h.2 k.sz⟩, fun j v d hv hd => (hP j v d hv hd).up up, hob⟩
  refine k.kp b o (fun m => ?_) e
  rcases List.mem_append.mp m with h | h
  · rcases hfp b hb with q | q
    · exact hI (q ▸ h)
    · exact q.1 (hW b h)
  · rcases hfp b hb with q | q
    · exact hIt (q ▸ h)
    · exact q.1 (st.sub b h)


theorem Src.go {elts : List Expr} {k : Nat} {pos : Pos} {v : Value} {Q : Unit → Shared → Prop} (src : Src B A I G s xs) (hQ : Q () s) : WP B A (letOwnedTupleGo (.Tuple elts k pos) (.ref I) v) Q E s := by
  obtain ⟨fp, n, i, P, S, W, hS, hn, hfp, hP, hob⟩ := src.has
  obtain ⟨o, T, ho, hc, hT, _⟩ := hob i _ hS
  cases v with
  | ref T' =>
    refine ⟨?_⟩
    unfold letOwnedTupleGo
    refine @wpAny_bind _ _ _ _ _ _ _ _ _ (@wpAny_load _ _ _ _ _ _ _ ho ?_)
    rw [hc]
    cases hd : o.data with
    | fields vs =>
      show wpAny _ A (if (["enumerate", "zip", "dict_itemiterator", "dict_reverseitemiterator", "odict_iterator", "itertools.zip_longest", "itertools.pairwise"].contains T && vs[0]? == some (rawInt T')) = true then _ else _) Q E s
      rw [if_neg (by intro h; rw [show (["enumerate", "zip", "dict_itemiterator", "dict_reverseitemiterator", "odict_iterator", "itertools.zip_longest", "itertools.pairwise"].contains T) = false from hT, Bool.false_and] at h; cases h)]
      exact @wpAny_pure _ _ _ _ _ _ _ hQ
    | _ => exact @wpAny_pure _ _ _ _ _ _ _ hQ
  | _ => exact ⟨@wpAny_pure _ _ _ _ _ _ _ hQ⟩
end

noncomputable def iterD : D → Option (List D)
  | .lst xs => some xs
  | .tup xs => some xs
  | .rng a b => if Builtin.Range.small a b 1 = true then some ((List.range (b - a).toNat).map fun (i : Nat) => D.int (a + (i : Int))) else none
  | .str x => if x.cps.all (· < 128) = true then some (x.cps.toList.map fun c => .str ⟨#[c]⟩) else none
  | _ => none

theorem rangeSize_one (a b : Int) : Builtin.Range.rangeSize a b 1 = ((b - a).toNat : Int) := by
  unfold Builtin.Range.rangeSize
  rw [if_pos (by decide), Int.ediv_one]
  split
  · rename_i h; rw [Int.sub_add_cancel, Int.toNat_of_nonneg (Int.sub_nonneg_of_le (Int.le_of_lt h))]
  · rename_i h; rw [Int.toNat_of_nonpos (Int.sub_nonpos_of_le (Int.not_lt.mp h))]; rfl

section
variable {B : Bs} {A : Around} {G : Gh} {s : Shared} {E : Value → Shared → Prop} {m : Nat}
theorem iter_ok {v : Value} {d : D} {xs : List D} {Q : Value → Shared → Prop} (rm : Room m A) (st : St B G s) (r : Rd G s.heap v d) (h : iterD d = some xs)
    (hQ : ∀ I s', s.heap.objs.size ≤ I → I < s'.heap.objs.size → Ke B G s G s' → Src B A I { G with O := I :: G.O } s' xs → Q (.ref I) s') : WP B A (pyIter v) Q E s := by
  have hlt : ∀ o, s.heap.objs.size < (s.heap.push o).objs.size := fun o => by rw [Heap.size_push]; exact Nat.lt_succ_self _
  have nI : ∀ (o : Obj) (b : Addr), b ∉ G.O → b < s.heap.objs.size → b = s.heap.objs.size ∨ (b ∉ s.heap.objs.size :: G.O ∧ b < (s.heap.push o).objs.size) := fun o b hb hl =>
    .inr ⟨fun m => (List.mem_cons.mp m).elim (Nat.ne_of_lt hl) hb, Nat.lt_trans hl (hlt o)⟩
  have rdl : ∀ (o : Obj) {vs : List Value} {ds : List D}, RdL G s.heap vs ds → RdL { G with O := s.heap.objs.size :: G.O } (s.heap.push o) vs ds := fun o vs ds r =>
    RdL.up (G' := { G with O := s.heap.objs.size :: G.O }) ⟨Kp.push _ _ _, fun a ha => (List.mem_cons.mp ha).elim (fun q => .inr (q ▸ get_size_none _)) .inl, Nat.le_refl _, fun _ _ => rfl⟩ r
  unfold iterD at h
  split at h
  · refine r.lstK fun a items n ha hl hd => ?_
    rw [Option.some.inj h] at hd
    refine ⟨@wpAny_pyIter_list _ _ _ _ _ _ _ _ (LstAt.is hl) ?_⟩
    have hne : a ≠ s.heap.objs.size := Nat.ne_of_lt (Heap.lt_size hl)
    refine hQ _ _ (Nat.le_refl _) (hlt _) (Ke.push st _ (Nat.le_refl _)) ⟨[s.heap.objs.size, a], items.size, 0, _, _, Walks.list rm.hd _ a hne items, ⟨⟨_, Heap.get?_push_size _ rfl, rfl, rfl⟩, LstAt.is (Heap.get?_push_of_some _ hl)⟩, ?_, ?_, ?_, ?_⟩
    · rw [hd.size, Nat.zero_add]
    · intro b hb
      rcases List.mem_cons.mp hb with q | q
      · exact .inl q
      · rw [List.mem_singleton.mp q]; exact nI _ a ha (Heap.lt_size hl)
    · intro j v d hv hdj
      obtain ⟨v', hv', rv⟩ := (rdl _ hd).get hdj
      rw [Nat.zero_add] at hv
      have : v' = v := by rw [Array.getElem?_toList] at hv'; exact Option.some.inj (hv'.symm.trans hv)
      exact this ▸ rv
    · rintro j h ⟨⟨o, ho, hc, _⟩, _⟩
      exact ⟨o, _, ho, hc, by decide, by decide⟩
  · refine r.tupK fun a items n ha hl hd => ?_
    rw [Option.some.inj h] at hd
    refine ⟨@wpAny_pyIter_tuple _ _ _ _ _ _ _ _ (TupAt.is hl) ?_⟩
    have hne : a ≠ s.heap.objs.size := Nat.ne_of_lt (Heap.lt_size hl)
    refine hQ _ _ (Nat.le_refl _) (hlt _) (Ke.push st _ (Nat.le_refl _)) ⟨[s.heap.objs.size, a], items.size, 0, _, _, Walks.tuple rm.hd _ a hne items, ⟨⟨_, Heap.get?_push_size _ rfl, rfl, rfl⟩, TupAt.is (Heap.get?_push_of_some _ hl)⟩, ?_, ?_, ?_, ?_⟩
    · rw [hd.size, Nat.zero_add]
    · intro b hb
      rcases List.mem_cons.mp hb with q | q
      · exact .inl q
      · rw [List.mem_singleton.mp q]; exact nI _ a ha (Heap.lt_size hl)
    · intro j v d hv hdj
      obtain ⟨v', hv', rv⟩ := (rdl _ hd).get hdj
      rw [Nat.zero_add] at hv
      have : v' = v := by rw [Array.getElem?_toList] at hv'; exact Option.some.inj (hv'.symm.trans hv)
      exact this ▸ rv
    · rintro j h ⟨⟨o, ho, hc, _⟩, _⟩
      exact ⟨o, _, ho, hc, by decide, by decide⟩
  · rename_i a b
    refine ifT h fun hs h => ?_
    · refine r.rngK fun r t u v ha hr => ?_
      rw [← Option.some.inj h] at hQ
      refine ⟨@wpAny_pyIter_range _ _ _ _ _ _ _ _ _ _ _ _ _ hr hs ?_⟩
      refine hQ _ _ (Nat.le_refl _) (hlt _) (Ke.push st _ (Nat.le_refl _)) ⟨[s.heap.objs.size], (b - a).toNat, 0, _, _, Walks.range rm.hd _ a 1 (b - a).toNat, ?_, ?_, ?_, ?_, ?_⟩
      · show (s.heap.push _).get? _ = _
        rw [rangeSize_one, Heap.get?_push_size _ rfl]; simp
      · simp
      · intro b hb; exact .inl (List.mem_singleton.mp hb)
      · rintro j v d ⟨t, rfl⟩ hd
        simp only [List.getElem?_map, Option.map_eq_some_iff] at hd
        obtain ⟨k, hk, rfl⟩ := hd
        have hkj : k = j := by
          have := List.getElem?_eq_some_iff.mp hk
          obtain ⟨h1, h2⟩ := this
          simpa using h2.symm
        subst hkj
        have e : a + ((0 + k : Nat) : Int) * 1 = a + (k : Int) := by omega
        rw [e]; exact .int _ _
      · intro j h hS; exact ⟨_, _, hS, rfl, by decide, by decide⟩
  · rename_i x
    refine ifT h fun hs h => ?_
    · refine r.strK fun t => ?_
      rw [← Option.some.inj h] at hQ
      refine ⟨@wpAny_pyIter_ascii _ _ _ _ _ _ _ _ hs ?_⟩
      refine hQ _ _ (Nat.le_refl _) (hlt _) (Ke.push st _ (Nat.le_refl _)) ⟨[s.heap.objs.size], x.cps.size, 0, _, _, Walks.strAscii rm.hd _ x t, ⟨_, Heap.get?_push_size _ rfl, rfl, rfl⟩, ?_, ?_, ?_, ?_⟩
      · simp
      · intro b hb; exact .inl (List.mem_singleton.mp hb)
      · rintro j v d ⟨c, u, hc, rfl⟩ hd
        simp only [List.getElem?_map, Option.map_eq_some_iff] at hd
        obtain ⟨c', hc', rfl⟩ := hd
        rw [Nat.zero_add] at hc
        have : c' = c := by rw [Array.getElem?_toList] at hc'; exact Option.some.inj (hc'.symm.trans hc)
        rw [this]; exact .str _ _
      · rintro j h ⟨o, ho, hc, _⟩; exact ⟨o, _, ho, hc, by decide, by decide⟩
  · exact nsd h
end
end Mine

end
section
open PySem PySem.W PyProof.Rows
set_option Elab.async false
namespace Mine

noncomputable def natsEq : List Nat → List Nat → Bool
  | [], bs => bs.isEmpty
  | a :: as, bs => match bs with
    | [] => false
    | b :: bs => cond (Nat.beq a b) (natsEq as bs) false
noncomputable def strEq (a b : Str) : Bool := natsEq a.cps.toList b.cps.toList
theorem natsEq_iff {a b : List Nat} : natsEq a b = true ↔ a = b := by
  induction a generalizing b with
  | nil => cases b with
    | nil => exact ⟨fun _ => rfl, fun _ => rfl⟩
    | cons => exact ⟨fun h => nft h, fun h => nomatch h⟩
  | cons x a ih => cases b with
    | nil => exact ⟨fun h => nft h, fun h => nomatch h⟩
    | cons y b =>
      show cond (Nat.beq x y) (natsEq a b) false = true ↔ _
      cases h : Nat.beq x y with
      | true => rw [Nat.eq_of_beq_eq_true h]; exact ih.trans ⟨fun e => by rw [e], fun e => (List.cons.inj e).2⟩
      | false => exact ⟨fun q => nft q, fun e => absurd (List.cons.inj e).1 (Nat.ne_of_beq_eq_false h)⟩
theorem strEq_iff {a b : Str} : strEq a b = true ↔ a = b := by
  unfold strEq
  rw [natsEq_iff]
  constructor
  · intro h; cases a; cases b; simp only [Str.mk.injEq]; exact Array.toList_inj.mp h
  · intro h; rw [h]
theorem strEq_eq (a b : Str) : strEq a b = (a == b) := by
  rw [Bool.eq_iff_iff, strEq_iff]; simp
noncomputable def look {α : Type} : List (Str × α) → Str → Option α
  | [], _ => none
  | (y, a) :: r, x => match strEq x y with
    | true => some a
    | false => look r x
theorem look_eq {α : Type} : ∀ (l : List (Str × α)) (x : Str), look l x = l.lookup x
  | [], _ => rfl
  | (y, a) :: r, x => by
    simp only [look, List.lookup_cons, strEq_eq, look_eq r x]
    cases x == y <;> rfl

set_option genCtorIdx true in
inductive Pr where
  | len | sum | range | abs | min | max | round | int | str | tuple | all | divmod | type
noncomputable def prTab : List (Str × (Pr × Value)) := [("len", (.len, .builtin "len")), ("sum", (.sum, .builtin "sum")), ("range", (.range, .type "range")), ("abs", (.abs, .builtin "abs")), ("min", (.min, .builtin "min")), ("max", (.max, .builtin "max")),
  ("round", (.round, .builtin "round")), ("int", (.int, .type "int")), ("str", (.str, .type "str")), ("tuple", (.tuple, .type "tuple")), ("all", (.all, .builtin "all")), ("divmod", (.divmod, .builtin "divmod")), ("type", (.type, .type "type"))]
noncomputable def Pr.val : Pr → Value
  | .len => .builtin "len" | .sum => .builtin "sum" | .range => .type "range" | .abs => .builtin "abs" | .min => .builtin "min" | .max => .builtin "max" | .round => .builtin "round" | .int => .type "int"
  | .str => .type "str" | .tuple => .type "tuple" | .all => .builtin "all" | .divmod => .builtin "divmod" | .type => .type "type"

noncomputable def intsOf : List D → Option (List Int)
  | [] => some []
  | .int i :: r => match intsOf r with
    | some l => some (i :: l)
    | none => none
  | _ => none
noncomputable def boolsOf : List D → Option (List Bool)
  | [] => some []
  | .bool i :: r => match boolsOf r with
    | some l => some (i :: l)
    | none => none
  | _ => none

noncomputable def fgt (x y : UInt64) : Bool := Float64.cmp x y == some .gt
noncomputable def flt' (x y : UInt64) : Bool := Float64.cmp x y == some .lt

noncomputable def typeD : D → Option String
  | .str _ => some "str"
  | .int _ => some "int"
  | .lst _ => some "list"
  | _ => none

noncomputable def lenP : D → Option D
  | .lst xs => if (xs.length : Int) < 2 ^ 63 then some (.int xs.length) else none
  | .str x => if (x.length : Int) < 2 ^ 63 then some (.int x.length) else none
  | _ => none
noncomputable def rangeP (ds : List D) : Option D := match sole intOf1 ds with
  | some n => some (.rng 0 n)
  | none => match two intOf1 intOf1 ds with
    | some p => some (.rng p.1 p.2)
    | none => none
noncomputable def minP (ds : List D) : Option D := match two intOf1 intOf1 ds with
  | some p => some (.int (if p.2 < p.1 then p.2 else p.1))
  | none => match three fltOf1 fltOf1 fltOf1 ds with
    | some p => some (.flt (if flt' p.2.1 p.1 then (if flt' p.2.2 p.2.1 then p.2.2 else p.2.1) else (if flt' p.2.2 p.1 then p.2.2 else p.1)))
    | none => none
noncomputable def maxP (ds : List D) : Option D := match two intOf1 intOf1 ds with
  | some p => some (.int (if p.2 > p.1 then p.2 else p.1))
  | none => match three fltOf1 fltOf1 fltOf1 ds with
    | some p => some (.flt (if fgt p.2.1 p.1 then (if fgt p.2.2 p.2.1 then p.2.2 else p.2.1) else (if fgt p.2.2 p.1 then p.2.2 else p.1)))
    | none => none
noncomputable def intP : D → Option D
  | .flt x => if Float64.isFinite x = true then some (.int (PySem.Flt.toInt Float64.truncOf x)) else none
  | .bool b => some (.int (if b then 1 else 0))
  | .str x => match PySem.intText? x with
    | some n => if x.length ≤ 640 then some (.int n) else none
    | none => none
  | _ => none
noncomputable def divmodP (ds : List D) : Option D := match two intOf1 intOf1 ds with
  | some p => if p.2 = 0 ∨ Builtin.divisionGoesByPylong p.1 p.2 = true then none else some (.tup [.int (p.1.fdiv p.2), .int (p.1.fmod p.2)])
  | none => none
noncomputable def sumP : D → Option D
  | .lst xs => match intsOf xs with
    | some l => some (.int l.sum)
    | none => none
  | _ => none
noncomputable def allP : D → Option D
  | .lst xs => match boolsOf xs with
    | some l => some (.bool (l.all id))
    | none => none
  | _ => none
noncomputable def tupP : D → Option D
  | .lst xs => if xs.length ≤ sizeLine then some (.tup xs) else none
  | _ => none
noncomputable def typP (d : D) : Option D := match typeD d with
  | some n => some (.typ n)
  | none => none
noncomputable def absP : D → Option D
  | .int a => some (.int (if a < 0 then -a else a))
  | _ => none
noncomputable def roundP : D → Option D
  | .flt x => if Float64.isFinite x = true then some (.int (PySem.Flt.toInt Float64.nearestOf x)) else none
  | _ => none
noncomputable def strP1 : D → Option D
  | .int a => if a.natAbs.log2 < 1920 then some (.str (Str.ofString (toString a))) else none
  | _ => none
noncomputable def prim1 : Pr → D → Option D
  | .len, d => lenP d
  | .sum, d => sumP d
  | .abs, d => absP d
  | .round, d => roundP d
  | .int, d => intP d
  | .str, d => strP1 d
  | .tuple, d => tupP d
  | .all, d => allP d
  | .type, d => typP d
  | _, _ => none
noncomputable def primN : Pr → List D → Option D
  | .range, ds => rangeP ds
  | .min, ds => minP ds
  | .max, ds => maxP ds
  | .divmod, ds => divmodP ds
  | _, _ => none
noncomputable def Pr.one : Pr → Bool
  | .range => false
  | .min => false
  | .max => false
  | .divmod => false
  | _ => true
noncomputable def primD (p : Pr) (ds : List D) : Option D := match p.one with
  | true => match ds with
    | [d] => prim1 p d
    | _ => none
  | false => primN p ds

section
variable {B : Bs} {A : Around} {G : Gh} {s : Shared} {Q : Value → Shared → Prop} {E : Value → Shared → Prop} {m : Nat}

theorem RdL.one {vs : List Value} {d : D} (r : RdL G s.heap vs [d]) : ∃ v, vs = [v] ∧ Rd G s.heap v d := r.consK fun v _ x y => y.nilK ⟨v, rfl, x⟩
theorem RdL.two {vs : List Value} {d e : D} (r : RdL G s.heap vs [d, e]) : ∃ v w, vs = [v, w] ∧ Rd G s.heap v d ∧ Rd G s.heap w e := r.consK fun v _ x y => let ⟨w, e, z⟩ := y.one; ⟨v, w, e ▸ rfl, x, z⟩
theorem RdL.three {vs : List Value} {d e f : D} (r : RdL G s.heap vs [d, e, f]) : ∃ v w x, vs = [v, w, x] ∧ Rd G s.heap v d ∧ Rd G s.heap w e ∧ Rd G s.heap x f := r.consK fun v _ x y => let ⟨w, z, e, a, b⟩ := y.two; ⟨v, w, z, e ▸ rfl, x, a, b⟩

theorem ints_of : ∀ {vs : List Value} {ds : List D} {l : List Int}, RdL G s.heap vs ds → intsOf ds = some l → (∀ v ∈ vs, ∃ a t, v = Value.int a t) ∧ numsOf vs = l
  | _, [], _, r, h => r.nilK ⟨fun _ hv => (nomatch hv), Option.some.inj h⟩
  | _, d :: ds, l, r, h => by
    refine r.consK fun v vs x y => ?_
    unfold intsOf at h
    split at h <;> first | exact nsd h | skip
    · rename_i e; cases e
    · rename_i e; obtain ⟨rfl, rfl⟩ := List.cons.inj e
      split at h
      · rename_i l' hr
        obtain ⟨h1, h2⟩ := ints_of y hr
        refine x.intK fun t => ⟨fun v hv => (List.mem_cons.mp hv).elim (fun q => ⟨_, t, q⟩) (h1 v), ?_⟩
        rw [← Option.some.inj h, ← h2]; rfl
      · exact nsd h
theorem bools_of : ∀ {vs : List Value} {ds : List D} {l : List Bool}, RdL G s.heap vs ds → boolsOf ds = some l → vs = l.map Value.bool
  | _, [], _, r, h => r.nilK (Option.some.inj h ▸ rfl)
  | _, d :: ds, l, r, h => by
    refine r.consK fun v vs x y => ?_
    unfold boolsOf at h
    split at h <;> first | exact nsd h | skip
    · rename_i e; cases e
    · rename_i e; obtain ⟨rfl, rfl⟩ := List.cons.inj e
      split at h
      · rename_i l' hr
        refine x.boolK ?_
        rw [← Option.some.inj h, bools_of y hr]; rfl
      · exact nsd h

theorem len_lst_ok {l : Addr} {items : Array Value} {n : Nat} {ds : List D} (st : St B G s) (hl : LstAt s.heap l items n) (hd : RdL G s.heap items.toList ds) (hs : (ds.length : Int) < 2 ^ 63)
    (hQ : Post B G s (.int ds.length) Q) : WP B A (call (.builtin "len") [.ref l]) Q E s := by
  have e := hd.size
  refine ⟨@PyProof.Rows.len_list _ _ _ _ _ _ _ _ (LstAt.is hl) (by rw [e]; exact hs) ?_⟩
  rw [e]; exact hQ.tok st (.int _ _) (by omega)

theorem sum_ok {l : Addr} {items : Array Value} {n : Nat} {ds : List D} {ns : List Int} (rm : Room m A) (st : St B G s) (hl : LstAt s.heap l items n) (hd : RdL G s.heap items.toList ds) (hi : intsOf ds = some ns)
    (hQ : Post B G s (.int ns.sum) Q) : WP B A (call (.builtin "sum") [.ref l]) Q E s := by
  obtain ⟨h1, h2⟩ := ints_of hd hi
  obtain ⟨xs, hx⟩ := AllInts.items (vs := items) fun v hv => h1 v (Array.mem_toList_iff.mpr hv)
  subst hx
  refine WP.mt ⟨@sum_intListG _ _ _ _ _ _ _ _ rm.hd (LstAt.is hl) fun h' tk t' hk htk hsz => ?_⟩
  have e : preSum (numAt xs) xs.size = ns.sum := by
    rw [preSum_eq, List.take_of_length_le (by simp), ← h2, nums_intItems]
  rw [e]
  exact hQ _ _ _ (Ke.of st hk htk hsz) (.int _ _)

noncomputable def fl3 (a b c : UInt64) (i : Nat) : UInt64 := if i = 0 then a else if i = 1 then b else c
theorem fl3_at {a b c : UInt64} {t u x : Tok} : ∀ (i : Nat) v, (#[.float a t, .float b u, .float c x] : Array Value)[i]? = some v → ∃ t, v = .float (fl3 a b c i) t
  | 0, v, hv => ⟨t, (Option.some.inj hv).symm⟩
  | 1, v, hv => ⟨u, (Option.some.inj hv).symm⟩
  | 2, v, hv => ⟨x, (Option.some.inj hv).symm⟩
  | i + 3, v, hv => nsd ((Array.getElem?_eq_none (xs := (#[.float a t, .float b u, .float c x] : Array Value)) (i := i + 3) (Nat.le_add_left 3 i)).symm.trans hv)
theorem best3 (f : UInt64 → UInt64 → Bool) (a b c : UInt64) : ∃ i, argBest (fun i j => f (fl3 a b c i) (fl3 a b c j)) (3 - 1) = i ∧ fl3 a b c i = (if f b a then (if f c b then c else b) else (if f c a then c else a)) ∧ i < 3 := by
  show ∃ i, (if f c (fl3 a b c (if f b a then 1 else 0)) then 2 else if f b a then 1 else 0) = i ∧ _
  cases h1 : f b a <;> simp only [if_true, if_false, Bool.false_eq_true]
  · show ∃ i, (if f c a then 2 else 0) = i ∧ _
    cases h2 : f c a
    · exact ⟨0, rfl, rfl, by decide⟩
    · exact ⟨2, rfl, rfl, by decide⟩
  · show ∃ i, (if f c b then 2 else 1) = i ∧ _
    cases h2 : f c b
    · exact ⟨1, rfl, rfl, by decide⟩
    · exact ⟨2, rfl, rfl, by decide⟩
theorem best3_rd {G : Gh} {h : Heap} {f : UInt64 → UInt64 → Bool} {a b c : UInt64} {t u x : Tok} {v : Value} (ra : Rd G h (.float a t) (.flt a)) (rb : Rd G h (.float b u) (.flt b)) (rc : Rd G h (.float c x) (.flt c))
    (hv : (#[.float a t, .float b u, .float c x] : Array Value)[argBest (fun i j => f (fl3 a b c i) (fl3 a b c j)) (3 - 1)]? = some v) : Rd G h v (.flt (if f b a then (if f c b then c else b) else (if f c a then c else a))) := by
  obtain ⟨i, hi, hfl, hlt⟩ := best3 f a b c
  rw [hi] at hv
  rw [← hfl]
  match i, hv with
  | 0, hv => exact Option.some.inj hv ▸ ra
  | 1, hv => exact Option.some.inj hv ▸ rb
  | 2, hv => exact Option.some.inj hv ▸ rc
  | i + 3, _ => exact absurd hlt (Nat.not_lt.mpr (Nat.le_add_left 3 i))
theorem new_tup (h : Heap) (items : Array Value) : (h.push { cls := .type "tuple", data := .seq items }).IsTuple h.objs.size items ∧ (h.push { cls := .type "tuple", data := .seq items }).objs.size = h.objs.size + 1 :=
  ⟨⟨_, Heap.get?_push_size _ rfl, rfl, 0, rfl⟩, Heap.size_push ..⟩
theorem three_lt {h : Heap} {o o' : Obj} : ∀ d ∈ [h.objs.size + 1, h.objs.size], d < ((h.push o).push o').objs.size := fun d hd => by
  rw [Heap.size_push, Heap.size_push]
  rcases List.mem_cons.mp hd with rfl | hd
  · exact Nat.lt_succ_self _
  · rw [List.mem_singleton.mp hd]; exact Nat.lt_succ_of_lt (Nat.lt_succ_self _)
theorem three_old {h h' : Heap} {o o' : Obj} (hk : ∀ d ob, d ∉ [h.objs.size + 1] → ((h.push o).push o').get? d = some ob → h'.get? d = some ob) : ∀ d ob, h.get? d = some ob → h'.get? d = some ob := fun d ob e =>
  hk d ob (fun hm => Nat.lt_irrefl _ (Nat.lt_of_succ_lt (List.mem_singleton.mp hm ▸ Heap.lt_size e))) (Heap.get?_push_of_some _ (Heap.get?_push_of_some _ e))
theorem max3_ok {a b c : UInt64} {t u x : Tok} (rm : Room m A) (st : St B G s) (ra : Rd G s.heap (.float a t) (.flt a)) (rb : Rd G s.heap (.float b u) (.flt b)) (rc : Rd G s.heap (.float c x) (.flt c))
    (hQ : Post B G s (.flt (if fgt b a then (if fgt c b then c else b) else (if fgt c a then c else a))) Q) : WP B A (call (.builtin "max") [.float a t, .float b u, .float c x]) Q E s := by
  obtain ⟨hT, hsz⟩ := new_tup s.heap #[.float a t, .float b u, .float c x]
  refine WP.mt ⟨@call_max_three _ _ _ _ _ _ _ _ _ (@wpAny_pyIter_tuple _ _ _ _ _ _ _ _ hT ?_)⟩
  rw [hsz]
  refine ⟨_, [_, s.heap.objs.size], [_], 3, _, _, fun i j => fgt (fl3 a b c i) (fl3 a b c j), rfl, Walks.tuple (A := A.in1) rm.hd _ s.heap.objs.size (Nat.ne_of_lt (Nat.lt_succ_self _)) #[.float a t, .float b u, .float c x],
    ⟨⟨_, hsz ▸ Heap.get?_push_size _ rfl, rfl, rfl⟩, hT.push _⟩, three_lt, by decide, fun i j vi vj s' Q' E' hi hj hq => ?_, fun v h' tk hv hk htk hz => ?_⟩
  · obtain ⟨ti, rfl⟩ := fl3_at i vi hi
    obtain ⟨tj, rfl⟩ := fl3_at j vj hj
    exact @AutoFloatOps.gt_0 _ _ _ _ _ _ _ _ _ _ hq
  · have ke : Ke B G s G { s with heap := h', toks := tk } := Ke.of st (three_old hk) htk hz
    exact hQ v _ _ ke (best3_rd (ra.ke st ke) (rb.ke st ke) (rc.ke st ke) hv)
theorem min3_ok {a b c : UInt64} {t u x : Tok} (rm : Room m A) (st : St B G s) (ra : Rd G s.heap (.float a t) (.flt a)) (rb : Rd G s.heap (.float b u) (.flt b)) (rc : Rd G s.heap (.float c x) (.flt c))
    (hQ : Post B G s (.flt (if flt' b a then (if flt' c b then c else b) else (if flt' c a then c else a))) Q) : WP B A (call (.builtin "min") [.float a t, .float b u, .float c x]) Q E s := by
  obtain ⟨hT, hsz⟩ := new_tup s.heap #[.float a t, .float b u, .float c x]
  refine WP.mt ⟨@call_min_three _ _ _ _ _ _ _ _ _ (@wpAny_pyIter_tuple _ _ _ _ _ _ _ _ hT ?_)⟩
  rw [hsz]
  refine ⟨_, [_, s.heap.objs.size], [_], 3, _, _, fun i j => flt' (fl3 a b c i) (fl3 a b c j), rfl, Walks.tuple (A := A.in1) rm.hd _ s.heap.objs.size (Nat.ne_of_lt (Nat.lt_succ_self _)) #[.float a t, .float b u, .float c x],
    ⟨⟨_, hsz ▸ Heap.get?_push_size _ rfl, rfl, rfl⟩, hT.push _⟩, three_lt, by decide, fun i j vi vj s' Q' E' hi hj hq => ?_, fun v h' tk hv hk htk hz => ?_⟩
  · obtain ⟨ti, rfl⟩ := fl3_at i vi hi
    obtain ⟨tj, rfl⟩ := fl3_at j vj hj
    exact @AutoFloatOps.lt_0 _ _ _ _ _ _ _ _ _ _ hq
  · have ke : Ke B G s G { s with heap := h', toks := tk } := Ke.of st (three_old hk) htk hz
    exact hQ v _ _ ke (best3_rd (ra.ke st ke) (rb.ke st ke) (rc.ke st ke) hv)

theorem all_ok {l : Addr} {items : Array Value} {n : Nat} {ds : List D} {bs : List Bool} (rm : Room m A) (st : St B G s) (hl : LstAt s.heap l items n) (hd : RdL G s.heap items.toList ds) (hi : boolsOf ds = some bs)
    (hQ : Post B G s (.bool (bs.all id)) Q) : WP B A (call (.builtin "all") [.ref l]) Q E s := by
  have hb := bools_of hd hi
  have hne : l ≠ s.heap.objs.size := Nat.ne_of_lt (Heap.lt_size hl)
  have hz : items.size = bs.length := by rw [← Array.length_toList, hb, List.length_map]
  refine WP.mt ⟨@call_all_walk _ _ _ _ _ _ _ (@wpAny_pyIter_list _ _ _ _ _ _ _ _ (LstAt.is hl) ?_)⟩
  refine ⟨_, _, _, _, _, _, fun i => bs.getD i false, rfl, Walks.list (A := A.in1) rm.hd _ l hne items, ⟨⟨_, Heap.get?_push_size _ rfl, rfl, rfl⟩, (LstAt.is hl).push _⟩, ?_, fun h' tk hk htk hsz => ?_⟩
  · intro i v s' Q' E' hv hq
    have hv' : items.toList[i]? = some v := by rw [Array.getElem?_toList]; exact hv
    rw [hb, List.getElem?_map, Option.map_eq_some_iff] at hv'
    obtain ⟨b, hb', rfl⟩ := hv'
    have : bs.getD i false = b := by rw [List.getD_eq_getElem?_getD, hb']; rfl
    refine @wpAny_truthy_bool _ _ _ _ _ _ ?_
    rw [← this]; exact hq
  · have e : (List.range items.size).all (fun i => bs.getD i false) = bs.all id := by
      rw [hz, Bool.eq_iff_iff, List.all_eq_true, List.all_eq_true]
      constructor
      · intro h b hb
        obtain ⟨i, hi⟩ := List.getElem?_of_mem hb
        have := h i (List.mem_range.mpr (List.getElem?_eq_some_iff.mp hi).1)
        rw [List.getD_eq_getElem?_getD, hi] at this
        exact this
      · intro h i hi
        rw [List.getD_eq_getElem?_getD, List.getElem?_eq_getElem (List.mem_range.mp hi)]
        exact h _ (List.getElem_mem _)
    rw [e]
    refine hQ _ _ _ (Ke.of st (fun b o eb => hk b o (fun hm => ?_) (Heap.get?_push_of_some _ eb)) htk hsz) (.bool _)
    have := Heap.lt_size eb
    rw [List.mem_singleton.mp hm] at this
    exact Nat.lt_irrefl _ this

theorem mt_any {α : Type} {M : Model} {A : Around} {t : Sem α} {Q : α → Shared → Prop} {E : Value → Shared → Prop} {s : Shared} (h : wpAny M A t (fun a s' => s.heap.objs.size ≤ s'.heap.objs.size → Q a s') E s) : wpAny M A t Q E s := fun Γ p hΓ =>
  Sem.wp_mono M Γ t (fun _ _ _ x => x.2 x.1) (fun _ _ _ x => x) p s (wp_size M Γ s.heap.objs.size t _ _ p s (Nat.le_refl _) (h Γ p hΓ))

theorem collect_sized {prog : Program} {w : World} {A : Around} {E : Value → Shared → Prop} {s : Shared} {Q : List Value → Shared → Prop} {l : Addr} {items : Array Value} {n : Nat} (ht : LstAt s.heap l items n) (hsz : items.size ≤ sizeLine)
    (hQ : ∀ h', (∀ b o', s.heap.get? b = some o' → h'.get? b = some o') → s.heap.objs.size ≤ h'.objs.size → Q items.toList { s with heap := h' }) : wpAny (model prog w) A (collect (.ref l)) Q E s :=
  mt_any (wpAny_collect_seq (hsz := hsz) l (.inl rfl) ht rfl rfl fun h' hk hz => hQ h' hk hz)
set_option maxRecDepth 100000 in
theorem tuple_meets (l : Addr) (items : Array Value) (n : Nat) (hsz : items.size ≤ sizeLine) :
    Meets (Builtin.«tuple.__new__» ⟨[.type "tuple", .ref l], []⟩)
      (fun _ R s => LstAt s.heap l items n ∧ ∀ h' : Heap, (∀ b o', s.heap.get? b = some o' → h'.get? b = some o') → s.heap.objs.size ≤ h'.objs.size → R (.ok (.ret (.ref h'.objs.size))) { s with heap := h'.push { cls := .type "tuple", data := .seq items } }) :=
  .of_wp fun prog w A R s h => by
    obtain ⟨hp, g, d, tk, os⟩ := s; obtain ⟨ht, h⟩ := h
    have hsub := sub_tuple_self
    have hinit := init_tuple_lookup
    have hmh := madeHere_tuple
    have hT : Shared.TypeIs ⟨hp, g, d, tk, os⟩ (.ref l) "list" := ⟨_, ht, rfl⟩
    wp_walk using AutoSeq1.wpAny_loadPart' ht, wpAny_typeOf hT, collect_sized ht hsz
    intro h' hk hz
    show wpAny _ _ (Builtin.Tuple.tupleExact items.toList.toArray >>= fun v => ret v) _ _ _
    unfold Builtin.Tuple.tupleExact
    refine wpAny_bind (wpAny_newObj_type ?_ (by show items.toList.toArray.size ≤ sizeLine; simpa using hsz))
    refine wpAny_pure ⟨_, rfl, ?_⟩
    have e : items.toList.toArray = items := by simp
    rw [e]
    exact h h' hk hz
theorem tuple_list {prog : Program} {w : World} {l : Addr} {items : Array Value} {n : Nat} (hl : LstAt s.heap l items n) (hsz : items.size ≤ sizeLine)
    (h : ∀ h' : Heap, (∀ b o', s.heap.get? b = some o' → h'.get? b = some o') → s.heap.objs.size ≤ h'.objs.size → Q (.ref h'.objs.size) { s with heap := h'.push { cls := .type "tuple", data := .seq items } }) :
    wpAny (model prog w) A (call (.type "tuple") [.ref l]) Q E s :=
  callType_new F.called_tuple (by decide) (F.typeCall_tuple_1 _) (F.newCall_tuple_1 _) (fun obj => F.args_object_init_2 obj _) F.entry_tuple_new
    (tuple_meets l items n hsz) ⟨hl, fun h' hk hz => ⟨⟨_, Heap.get?_push_size _ rfl, rfl⟩, h h' hk hz⟩⟩

theorem type_ok {v : Value} {d : D} {n : String} (st : St B G s) (r : Rd G s.heap v d) (h : typeD d = some n) (hQ : Post B G s (.typ n) Q) : WP B A (call (.type "type") [v]) Q E s := by
  unfold typeD at h
  split at h
  · refine r.strK fun t => ⟨@call_type_of _ _ _ _ _ _ _ _ (typeIs_str _ _ _) (by decide) ?_⟩; rw [← Option.some.inj h] at hQ; exact hQ.val st (.typ _)
  · refine r.intK fun t => ⟨@call_type_of _ _ _ _ _ _ _ _ (typeIs_int _ _ _) (by decide) ?_⟩; rw [← Option.some.inj h] at hQ; exact hQ.val st (.typ _)
  · refine r.lstK fun a items n ha hl hd => ⟨@call_type_of _ _ _ _ _ _ _ _ (LstAt.is hl).typeIs (by decide) ?_⟩; rw [← Option.some.inj h] at hQ; exact hQ.val st (.typ _)
  · exact nsd h

theorem fin_nan {x : UInt64} (hf : Float64.isFinite x = true) (q : Float64.isNaN x = true) : False := by
  unfold Float64.isFinite at hf; unfold Float64.isNaN at q; cases hd : Float64.decode x <;> simp [hd] at hf q
theorem fin_inf {x : UInt64} (hf : Float64.isFinite x = true) (q : Float64.isInf x = true) : False := by
  unfold Float64.isFinite at hf; unfold Float64.isInf at q; cases hd : Float64.decode x <;> simp [hd] at hf q
theorem lenP_ok {v : Value} {x d : D} (st : St B G s) (r : Rd G s.heap v x) (h : lenP x = some d) (hQ : Post B G s d Q) : WP B A (call (.builtin "len") [v]) Q E s := by
  unfold lenP at h
  split at h
  · exact ifT h fun hs h => r.lstK fun a items n ha hl hd => len_lst_ok st hl hd hs (hQ.of h)
  · exact ifT h fun hs h => r.strK fun t => ⟨@P.len_str _ _ _ _ _ _ _ _ (by omega) ((hQ.of h).tok st (.int _ _) (by omega))⟩
  · exact nsd h
theorem sumP_ok {v : Value} {x d : D} (rm : Room m A) (st : St B G s) (r : Rd G s.heap v x) (h : sumP x = some d) (hQ : Post B G s d Q) : WP B A (call (.builtin "sum") [v]) Q E s := by
  unfold sumP at h
  split at h
  · split at h
    · rename_i hi; exact r.lstK fun a items n ha hl hd => sum_ok rm st hl hd hi (hQ.of h)
    · exact nsd h
  · exact nsd h
theorem allP_ok {v : Value} {x d : D} (rm : Room m A) (st : St B G s) (r : Rd G s.heap v x) (h : allP x = some d) (hQ : Post B G s d Q) : WP B A (call (.builtin "all") [v]) Q E s := by
  unfold allP at h
  split at h
  · split at h
    · rename_i hi; exact r.lstK fun a items n ha hl hd => all_ok rm st hl hd hi (hQ.of h)
    · exact nsd h
  · exact nsd h
theorem tupP_ok {v : Value} {x d : D} (st : St B G s) (r : Rd G s.heap v x) (h : tupP x = some d) (hQ : Post B G s d Q) : WP B A (call (.type "tuple") [v]) Q E s := by
  unfold tupP at h
  split at h
  · refine ifT h fun hl h => r.lstK fun a items n ha hll hd => ⟨tuple_list hll (by rw [hd.size]; exact hl) fun h' hk hz' => ?_⟩
    have k1 : Ke B G s G { s with heap := h' } := Ke.of st hk (Nat.le_refl _) hz'
    exact Post.newT ((hQ.of h).after k1) (st.ke k1) (hd.ke st k1)
  · exact nsd h
theorem intP_ok {v : Value} {x d : D} (rm : Room m A) (st : St B G s) (r : Rd G s.heap v x) (h : intP x = some d) (hQ : Post B G s d Q) : WP B A (call (.type "int") [v]) Q E s := by
  unfold intP at h
  split at h
  · exact ifT h fun hf h => r.fltK fun t _ _ _ => ⟨@PySem.Flt.call_int_float3 _ _ _ _ _ _ _ _ rm.hd (fun q => (fin_nan hf q).elim) (fun q => (fin_inf hf q).elim) fun _ => (hQ.of h).tok1 st (.int _ _)⟩
  · exact r.boolK ⟨@call_int_bool _ _ _ _ _ _ _ ((hQ.of h).tok1 st (.int _ _))⟩
  · split at h
    · rename_i hi; exact ifT h fun hl h => r.strK fun t => ⟨@PySem.W.KIN.call_text _ _ _ _ _ _ _ _ _ hi hl ((hQ.of h).tok1 st (.int _ _))⟩
    · exact nsd h
  · exact nsd h
theorem rng_post {a b : Int} {t u w : Tok} {n : Nat} (st : St B G s) (hn : s.toks ≤ n) {o : Obj} (hI : IsRange (s.heap.push o) s.heap.objs.size a b 1 t u w) (hQ : Post B G s (.rng a b) Q) : Q (.ref s.heap.objs.size) { s with heap := s.heap.push o, toks := n } :=
  hQ _ _ _ (Ke.push st o hn) (.rng (st.fresh (Nat.le_refl _)) hI)
theorem rd_two {vs : List Value} {ds : List D} {p : Int × Int} (r : RdL G s.heap vs ds) (h : two intOf1 intOf1 ds = some p) : ∃ t u, vs = [.int p.1 t, .int p.2 u] := by
  obtain ⟨a, b, rfl, h1, h2⟩ := two_eq h
  obtain ⟨v, w, rfl, rv, rw'⟩ := r.two
  rw [intOf1_eq h1] at rv; rw [intOf1_eq h2] at rw'
  exact rv.intK fun t => rw'.intK fun u => ⟨t, u, rfl⟩
theorem rd_flts {vs : List Value} {ds : List D} {p : UInt64 × UInt64 × UInt64} (r : RdL G s.heap vs ds) (h : three fltOf1 fltOf1 fltOf1 ds = some p) : ∃ t u x, vs = [.float p.1 t, .float p.2.1 u, .float p.2.2 x] ∧ Rd G s.heap (.float p.1 t) (.flt p.1) ∧ Rd G s.heap (.float p.2.1 u) (.flt p.2.1) ∧ Rd G s.heap (.float p.2.2 x) (.flt p.2.2) := by
  obtain ⟨a, b, c, rfl, h1, h2, h3⟩ := three_eq h
  obtain ⟨v, w, x, rfl, r1, r2, r3⟩ := r.three
  rw [fltOf1_eq h1] at r1; rw [fltOf1_eq h2] at r2; rw [fltOf1_eq h3] at r3
  exact r1.fltK fun t a1 a2 a3 => r2.fltK fun u b1 b2 b3 => r3.fltK fun x c1 c2 c3 => ⟨t, u, x, rfl, .flt a1 a2 a3, .flt b1 b2 b3, .flt c1 c2 c3⟩
theorem rangeP_ok {vs : List Value} {ds : List D} {d : D} (st : St B G s) (r : RdL G s.heap vs ds) (h : rangeP ds = some d) (hQ : Post B G s d Q) : WP B A (call (.type "range") vs) Q E s := by
  unfold rangeP at h
  split at h
  · rename_i hs
    obtain ⟨d1, rfl, h1⟩ := sole_eq hs
    obtain ⟨v, rfl, rv⟩ := r.one
    rw [intOf1_eq h1] at rv
    exact rv.intK fun t => ⟨@call_range_1 _ _ _ _ _ _ _ _ (rng_post st (by omega) (Heap.get?_push_size _ rfl) (hQ.of h))⟩
  · split at h
    · rename_i hs
      obtain ⟨t, u, rfl⟩ := rd_two r hs
      exact ⟨@call_range_2 _ _ _ _ _ _ _ _ _ _ (rng_post st (by omega) (Heap.get?_push_size _ rfl) (hQ.of h))⟩
    · exact nsd h
theorem int_pick {c : Prop} [Decidable c] {a b : Int} {t u : Tok} : Rd G s.heap (if c then .int a t else .int b u) (.int (if c then a else b)) := by
  by_cases hc : c
  · rw [if_pos hc, if_pos hc]; exact .int _ _
  · rw [if_neg hc, if_neg hc]; exact .int _ _
theorem minP_ok {vs : List Value} {ds : List D} {d : D} (rm : Room m A) (st : St B G s) (r : RdL G s.heap vs ds) (h : minP ds = some d) (hQ : Post B G s d Q) : WP B A (call (.builtin "min") vs) Q E s := by
  unfold minP at h
  split at h
  · rename_i hs
    obtain ⟨t, u, rfl⟩ := rd_two r hs
    exact WP.mt ⟨@min_two_ints _ _ _ _ _ _ _ _ _ _ rm.hd fun h' tk hk ht hz => (hQ.of h) _ _ _ (Ke.of st hk ht hz) int_pick⟩
  · split at h
    · rename_i hs
      obtain ⟨t, u, x, rfl, r1, r2, r3⟩ := rd_flts r hs
      exact min3_ok rm st r1 r2 r3 (hQ.of h)
    · exact nsd h
theorem maxP_ok {vs : List Value} {ds : List D} {d : D} (rm : Room m A) (st : St B G s) (r : RdL G s.heap vs ds) (h : maxP ds = some d) (hQ : Post B G s d Q) : WP B A (call (.builtin "max") vs) Q E s := by
  unfold maxP at h
  split at h
  · rename_i hs
    obtain ⟨t, u, rfl⟩ := rd_two r hs
    exact WP.mt ⟨@max_two_ints _ _ _ _ _ _ _ _ _ _ rm.hd fun h' tk hk ht hz => (hQ.of h) _ _ _ (Ke.of st hk ht hz) int_pick⟩
  · split at h
    · rename_i hs
      obtain ⟨t, u, x, rfl, r1, r2, r3⟩ := rd_flts r hs
      exact max3_ok rm st r1 r2 r3 (hQ.of h)
    · exact nsd h
theorem divmodP_ok {vs : List Value} {ds : List D} {d : D} (st : St B G s) (r : RdL G s.heap vs ds) (h : divmodP ds = some d) (hQ : Post B G s d Q) : WP B A (call (.builtin "divmod") vs) Q E s := by
  unfold divmodP at h
  split at h
  · rename_i hs
    obtain ⟨t, u, rfl⟩ := rd_two r hs
    refine ifF h fun hc h => ?_
    rw [not_or] at hc
    refine ⟨@PyProof.Rows.divmod_int _ _ _ _ _ _ _ _ _ _ hc.1 ?_ (.inl (by simpa using hc.2))⟩
    have k1 : Ke B G s G { s with toks := s.toks + 1 + 1 } := Ke.tok st (Nat.le_add_right _ 2)
    exact Post.newT ((hQ.of h).after k1) (st.ke k1) (.cons (.int _ _) (.cons (.int _ _) .nil))
  · exact nsd h
theorem absP_ok {v : Value} {x d : D} (st : St B G s) (r : Rd G s.heap v x) (h : absP x = some d) (hQ : Post B G s d Q) : WP B A (call (.builtin "abs") [v]) Q E s := by
  unfold absP at h
  split at h
  · exact r.intK fun t => WP.mt ⟨@call_abs_int _ _ _ _ _ _ _ _ fun u tk ht _ => (hQ.of h).tok st (.int _ _) ht⟩
  · exact nsd h
theorem roundP_ok {v : Value} {x d : D} (rm : Room m A) (st : St B G s) (r : Rd G s.heap v x) (h : roundP x = some d) (hQ : Post B G s d Q) : WP B A (call (.builtin "round") [v]) Q E s := by
  unfold roundP at h
  split at h
  · exact ifT h fun hf h => r.fltK fun t _ _ _ => ⟨@PySem.Flt.call_round_float _ _ _ _ _ _ _ _ rm.hd (fun q => (fin_nan hf q).elim) (fun q => (fin_inf hf q).elim) fun _ => (hQ.of h).tok1 st (.int _ _)⟩
  · exact nsd h
theorem strP1_ok {v : Value} {x d : D} (st : St B G s) (r : Rd G s.heap v x) (h : strP1 x = some d) (hQ : Post B G s d Q) : WP B A (call (.type "str") [v]) Q E s := by
  unfold strP1 at h
  split at h
  · exact ifT h fun hl h => r.intK fun t => ⟨@P.str_of_int _ _ _ _ _ _ _ _ hl ((hQ.of h).tok1 st (.str _ _))⟩
  · exact nsd h
theorem typP_ok {v : Value} {x d : D} (st : St B G s) (r : Rd G s.heap v x) (h : typP x = some d) (hQ : Post B G s d Q) : WP B A (call (.type "type") [v]) Q E s := by
  unfold typP at h
  split at h
  · rename_i hi; exact type_ok st r hi (hQ.of h)
  · exact nsd h
theorem primD_ok {p : Pr} {vs : List Value} {ds : List D} {d : D} (rm : Room m A) (st : St B G s) (r : RdL G s.heap vs ds) (h : primD p ds = some d) (hQ : Post B G s d Q) : WP B A (call p.val vs) Q E s := by
  unfold primD at h
  split at h
  · rename_i ho
    split at h
    · obtain ⟨v, rfl, rv⟩ := r.one
      cases p
      case len => exact lenP_ok st rv h hQ
      case sum => exact sumP_ok rm st rv h hQ
      case range => cases ho
      case abs => exact absP_ok st rv h hQ
      case min => cases ho
      case max => cases ho
      case round => exact roundP_ok rm st rv h hQ
      case int => exact intP_ok rm st rv h hQ
      case str => exact strP1_ok st rv h hQ
      case tuple => exact tupP_ok st rv h hQ
      case all => exact allP_ok rm st rv h hQ
      case divmod => cases ho
      case type => exact typP_ok st rv h hQ
    · exact nsd h
  · cases p <;> first | exact nsd h | exact rangeP_ok st r h hQ | exact minP_ok rm st r h hQ | exact maxP_ok rm st r h hQ | exact divmodP_ok st r h hQ
end
end Mine

end
section
open PySem PySem.W PyProof.Rows
set_option Elab.async false
namespace Mine
open PySem.SeqAt

noncomputable def itemD (a b : D) : Option D := match b with
  | .int k => match a with
    | .lst xs => if 0 ≤ k ∧ k < 2 ^ 63 then xs[k.toNat]? else none
    | .tup xs => if 0 ≤ k ∧ k < 2 ^ 63 then xs[k.toNat]? else none
    | .str x => if fitsSsize k = true ∧ (Txt.charAt x k).isSome = true then some (.str (Txt.item x k)) else none
    | _ => none
  | _ => none

noncomputable def pick {α : Type} (xs : List α) (lo hi st : Option Int) : List α :=
  (sliceRange (sliceBounds lo hi st xs.length).1 (sliceBounds lo hi st xs.length).2.1 (sliceBounds lo hi st xs.length).2.2).filterMap (xs[·]?)
noncomputable def sliceD (a : D) (lo hi st : Option Int) : Option D := match a with
  | .lst xs => if st = some 0 ∨ sizeLine < xs.length then none else some (.lst (pick xs lo hi st))
  | .str x => match st with
    | none => if x.length ≤ sizeLine then some (.str (Txt.slice x lo hi)) else none
    | some _ => none
  | _ => none
noncomputable def partD : D → Option (Option Int)
  | .none => some none
  | .int i => some (some i)
  | _ => none

section
variable {B : Bs} {A : Around} {G : Gh} {s : Shared} {Q : Value → Shared → Prop} {E : Value → Shared → Prop} {m : Nat}

theorem RdL.pick {vs : List Value} {ds : List D} (r : RdL G s.heap vs ds) : ∀ (l : List Nat), RdL G s.heap (l.filterMap (vs[·]?)) (l.filterMap (ds[·]?))
  | [] => .nil
  | i :: l => by
    cases hd : ds[i]? with
    | none =>
      have hv : vs[i]? = none := by
        rw [List.getElem?_eq_none_iff] at hd ⊢; rw [r.length]; exact hd
      rw [List.filterMap_cons_none hv, List.filterMap_cons_none hd]; exact RdL.pick r l
    | some d =>
      obtain ⟨v, hv, rv⟩ := r.get hd
      rw [List.filterMap_cons_some hv, List.filterMap_cons_some hd]; exact .cons rv (RdL.pick r l)

theorem item_ok {value slice : Expr} {o i : Value} {a b d : D} (st : St B G s) (ro : Rd G s.heap o a) (ri : Rd G s.heap i b) (h : itemD a b = some d) (hs : ∀ o i, subscripted slice false o i = operate [o, i] (getItem o i)) (hQ : Post B G s d Q) :
    WP B A (subscriptTail value slice o i) Q E s := by
  unfold itemD at h
  split at h
  · rename_i k
    refine ri.intK fun u => ?_
    split at h
    · refine ifT h fun hk h => ro.lstK fun l items n ha hl hd => ?_
      obtain ⟨v, hv, rv⟩ := hd.get h
      exact ⟨@tail_any _ _ _ _ _ _ _ _ _ _ _ _ _ (LstAt.is hl).typeIs slot_list_getitem.lookup (@wpAny_getItem_list _ _ _ _ _ _ _ _ _ _ _ (LstAt.is hl) hk.1 hk.2 (by rw [← Array.getElem?_toList]; exact hv) (hQ.val st rv)) (hs _ _)⟩
    · refine ifT h fun hk h => ro.tupK fun l items n ha hl hd => ?_
      obtain ⟨v, hv, rv⟩ := hd.get h
      have hlt : k.toNat < items.size := by rw [← Array.length_toList]; exact (List.getElem?_eq_some_iff.mp hv).1
      have hj : seqIndex? k items.size = some k.toNat := by
        unfold seqIndex?
        have e : (if k < 0 then k + (items.size : Int) else k) = k := if_neg (by omega)
        simp only [e]
        rw [if_pos (by simp; omega)]
      exact ⟨@tail_any _ _ _ _ _ _ _ _ _ _ _ _ _ (TupAt.is hl).typeIs F.slot_tuple_getitem.lookup (@P.getItem_tuple _ _ _ _ _ _ _ _ _ _ _ _ _ hl (by omega) hk.2 hj (by rw [← Array.getElem?_toList]; exact hv) (hQ.val st rv)) (hs _ _)⟩
    · exact ifT h fun hk h => ro.strK fun t => ⟨@tail_any _ _ _ _ _ _ _ _ _ _ _ _ _ (typeIs_str _ _ _) F.slot_str_getitem.lookup (@SB.getItem _ _ _ _ _ _ _ _ _ _ hk.1 hk.2 ((hQ.of h).tok1 st (.str _ _))) (hs _ _)⟩
    · exact nsd h
  · exact nsd h

theorem part_ok {v : Value} {d : D} {p : Option Int} (r : Rd G s.heap v d) (h : partD d = some p) : IsPart v p ∧ ∃ q : Option (Int × Tok), v = partValue q ∧ q.map (·.1) = p := by
  unfold partD at h
  split at h
  · exact r.noneK (Option.some.inj h ▸ ⟨.none, none, rfl, rfl⟩)
  · exact r.intK fun t => Option.some.inj h ▸ ⟨.int _ _, some (_, t), rfl, rfl⟩
  · exact nsd h

theorem slice_ok {value slice : Expr} {o vl vu vs : Value} {a dl du ds d : D} {lo hi sp : Option Int} (st : St B G s) (ro : Rd G s.heap o a) (rl : Rd G s.heap vl dl) (ru : Rd G s.heap vu du) (rs : Rd G s.heap vs ds)
    (hl : partD dl = some lo) (hu : partD du = some hi) (hp : partD ds = some sp) (h : sliceD a lo hi sp = some d)
    (hs : ∀ o i, ∃ ops, subscripted slice false o i = operate ops (getItem o i)) (hQ : Post B G s d Q) :
    WP B A (subscriptTail value slice o (.ref s.heap.objs.size)) Q E { s with heap := s.heap.push { cls := .type "slice", data := .fields #[vl, vu, vs] } } := by
  have k1 : Ke B G s G { s with heap := s.heap.push { cls := .type "slice", data := .fields #[vl, vu, vs] } } := Ke.push st _ (Nat.le_refl _)
  have st1 := st.ke k1
  have hsl : (s.heap.push { cls := .type "slice", data := .fields #[vl, vu, vs] }).IsSliceOf s.heap.objs.size vl vu vs := Heap.IsSliceOf.new _ _ _ _
  have ro1 := ro.ke st k1
  obtain ⟨ops, ho⟩ := hs o (.ref s.heap.objs.size)
  unfold sliceD at h
  split at h
  · rename_i xs
    refine ifF h fun hc h => ?_
    revert ho
    refine ro1.lstK fun l items n ha hll hd ho => ?_
    rw [not_or] at hc
    have e := hd.size
    refine ⟨@tail_any _ _ _ _ _ _ _ _ _ _ _ _ _ (LstAt.is hll).typeIs slot_list_getitem.lookup (@wpAny_getItem_list_slice _ _ _ _ _ _ _ _ _ _ _ _ _ _ _ (LstAt.is hll) hsl (part_ok rl hl).1 (part_ok ru hu).1 (part_ok rs hp).1 hc.1 (Post.newL ((hQ.of h).after k1) st1 ?_) (by rw [e]; omega)) ho⟩
    unfold slicePick Mine.pick
    rw [e]
    have := RdL.pick (s := { s with heap := s.heap.push { cls := .type "slice", data := .fields #[vl, vu, vs] } }) hd (sliceRange (sliceBounds lo hi sp xs.length).1 (sliceBounds lo hi sp xs.length).2.1 (sliceBounds lo hi sp xs.length).2.2)
    have e2 : (fun i : Nat => items.toList[i]?) = fun i : Nat => items[i]? := funext fun i => Array.getElem?_toList ..
    rw [e2] at this
    exact this
  · rename_i x
    split at h
    · refine ifT h fun hz h => ?_
      replace hQ := hQ.of h
      obtain ⟨_, ql, rfl, hql⟩ := part_ok rl hl
      obtain ⟨_, qu, rfl, hqu⟩ := part_ok ru hu
      obtain ⟨_, qs, hqs, hqs'⟩ := part_ok rs hp
      have : qs = none := by cases qs with | none => rfl | some _ => cases hqs'
      subst this
      subst hqs
      revert ho
      refine ro1.strK fun t ho => ?_
      refine WP.mt ⟨@tail_any _ _ _ _ _ _ _ _ _ _ _ _ _ (typeIs_str _ _ _) F.slot_str_getitem.lookup (wpAny_getItem_str_slice (l := ql) (u := qu) (st := none) ⟨_, Heap.get?_push_size _ rfl, rfl, rfl⟩ rfl ?_) ho⟩
      unfold sliceMade
      have e : slicePicked x ql qu none = Builtin.Str.strSliceIndices lo hi 1 x.length := by unfold slicePicked; rw [hql, hqu]; rfl
      rw [e]
      show Made.post (if ((1 : Int) == 1 && (Builtin.Str.strSliceIndices lo hi 1 x.length).length == x.length) = true then Made.val (.str x t) else _) _ _
      unfold Txt.slice at hQ
      by_cases hw : ((1 : Int) == 1 && (Builtin.Str.strSliceIndices lo hi 1 x.length).length == x.length) = true
      · rw [if_pos hw] at hQ ⊢
        exact fun ht hz => hQ _ _ _ k1 (.str _ _)
      · rw [if_neg hw] at hQ ⊢
        refine ⟨?_, fun ht hz => (hQ.after k1).tok st1 (.str _ _) ht⟩
        have h1 := sliceIndices_le lo hi x.length
        have h2 := List.length_filterMap_le (fun i : Nat => x.cps[i]?) (Builtin.Str.strSliceIndices lo hi 1 x.length)
        show ((Builtin.Str.strSliceIndices lo hi 1 x.length).filterMap (x.cps[·]?)).toArray.size ≤ sizeLine
        rw [List.size_toArray]; omega
    · exact nsd h
  · exact nsd h
end

set_option genCtorIdx true in
inductive Mt where
  | upper | lower | join | bitlen | index
noncomputable def mtTab : List (Str × Mt) := [("upper", .upper), ("lower", .lower), ("join", .join), ("bit_length", .bitlen), ("index", .index)]
noncomputable def strsOf : List D → Option (List Str)
  | [] => some []
  | .str x :: r => match strsOf r with
    | some l => some (x :: l)
    | none => none
  | _ => none
noncomputable def eqsD (x : D) : List D → Option (List Bool)
  | [] => some []
  | y :: ys => match eqD 8 y x with
    | some a => match eqsD x ys with
      | some b => some (a :: b)
      | none => none
    | none => none
noncomputable def firstT : List Bool → Option Nat
  | [] => none
  | b :: r => match b with
    | true => some 0
    | false => match firstT r with
      | some n => some (n + 1)
      | none => none
noncomputable def asc (x : Str) : Bool := x.cps.toList.all fun c => Nat.blt c 128
noncomputable def upF (x : Str) : Str := cond (asc x) ⟨(x.cps.toList.map up1).toArray⟩ (Txt.upper x)
noncomputable def lowF (x : Str) : Str := cond (asc x) ⟨(x.cps.toList.map lo1).toArray⟩ (Txt.lower x)
theorem asc_lt {x : Str} (h : asc x = true) : ∀ c ∈ x.cps.toList, c < 128 := fun c hc => Nat.le_of_ble_eq_true (List.all_eq_true.mp h c hc)
theorem mapF {a : Array Nat} {f : Nat → Nat} : (a.toList.map f).toArray = a.map f := by rw [← Array.toList_map, Array.toArray_toList]
theorem upF_eq (x : Str) : upF x = Txt.upper x := by
  unfold upF
  cases h : asc x with
  | true => rw [upper_ascii (asc_lt h)]; exact congrArg Str.mk mapF
  | false => rfl
theorem lowF_eq (x : Str) : lowF x = Txt.lower x := by
  unfold lowF
  cases h : asc x with
  | true => rw [lower_ascii (asc_lt h)]; exact congrArg Str.mk mapF
  | false => rfl
noncomputable def upM : D → Option D
  | .str x => match Builtin.Str.tooLong (upF x).length with
    | true => none
    | false => some (.str (upF x))
  | _ => none
noncomputable def lowM : D → Option D
  | .str x => match Builtin.Str.tooLong (Txt.lower x).length with
    | true => none
    | false => some (.str (Txt.lower x))
  | _ => none
noncomputable def joinM (a b : D) : Option D := match a with
  | .str sep => match b with
    | .lst xs => match strsOf xs with
      | some l => match JoinOk sep l with
        | true => some (.str (Txt.join sep l))
        | false => none
      | none => none
    | _ => none
  | _ => none
noncomputable def bitM : D → Option D
  | .int a => some (.int (Builtin.Int.intBits a))
  | _ => none
noncomputable def indexM (a x : D) : Option D := match a with
  | .lst xs => match eqsD x xs with
    | some bs => match firstT bs with
      | some j => if (j : Int) < 2 ^ 63 - 1 then some (.int j) else none
      | none => none
    | none => none
  | _ => none
noncomputable def methD (t : Mt) (d : D) (ds : List D) : Option D := match ds with
  | [] => match t with
    | .upper => upM d
    | .lower => lowM d
    | .bitlen => bitM d
    | _ => none
  | [x] => match t with
    | .join => joinM d x
    | .index => indexM d x
    | _ => none
  | _ => none

section
variable {B : Bs} {A : Around} {G : Gh} {s : Shared} {Q : Value → Shared → Prop} {E : Value → Shared → Prop} {m : Nat}
theorem strs_of : ∀ {vs : List Value} {ds : List D} {l : List Str}, RdL G s.heap vs ds → strsOf ds = some l → ∃ lt : List (Str × Tok), vs = strValues lt ∧ lt.map (·.1) = l
  | _, [], _, r, h => r.nilK ⟨[], rfl, Option.some.inj h⟩
  | _, d :: ds, l, r, h => by
    refine r.consK fun v vs x y => ?_
    unfold strsOf at h
    split at h <;> first | exact nsd h | skip
    · rename_i e; cases e
    · rename_i e; obtain ⟨rfl, rfl⟩ := List.cons.inj e
      split at h
      · rename_i hr
        obtain ⟨lt, e1, e2⟩ := strs_of y hr
        exact x.strK fun t => ⟨(_, t) :: lt, by rw [e1]; rfl, by rw [List.map_cons, e2]; exact Option.some.inj h⟩
      · exact nsd h
theorem eqs_get {x : D} : ∀ {ys : List D} {bs : List Bool}, eqsD x ys = some bs → bs.length = ys.length ∧ ∀ (i : Nat) y, ys[i]? = some y → eqD 8 y x = some (bs.getD i false)
  | [], bs, h => by rw [← Option.some.inj h]; exact ⟨rfl, fun i y hy => nsd hy⟩
  | y :: ys, bs, h => by
    unfold eqsD at h
    split at h
    · rename_i a hf
      split at h
      · rename_i b hr
        rw [← Option.some.inj h]
        obtain ⟨hl, he⟩ := eqs_get hr
        refine ⟨congrArg (· + 1) hl, fun i y' hy => ?_⟩
        cases i with
        | zero => exact Option.some.inj hy ▸ hf
        | succ i => exact he i y' hy
      · exact nsd h
    · exact nsd h
theorem firstT_get : ∀ {bs : List Bool} {j : Nat}, firstT bs = some j → j < bs.length ∧ bs.getD j false = true ∧ ∀ i, i < j → bs.getD i false = false
  | [], _, h => by cases h
  | b :: r, j, h => by
    cases b
    · simp only [firstT] at h
      cases hr : firstT r with
      | none => rw [hr] at h; cases h
      | some n =>
        rw [hr] at h; cases h
        obtain ⟨h1, h2, h3⟩ := firstT_get hr
        refine ⟨by simpa using h1, by simpa using h2, fun i hi => ?_⟩
        cases i with
        | zero => rfl
        | succ i => simpa using h3 i (by omega)
    · cases h; exact ⟨by simp, rfl, fun i hi => absurd hi (Nat.not_lt_zero _)⟩
theorem by_value {items : List Value} {ds : List D} {x : D} {e : Nat → Bool} (hd : RdL G s.heap items ds) (he : ∀ (i : Nat) y, ds[i]? = some y → eqD 8 y x = some (e i)) : ∃ f : Value → Bool, ∀ (i : Nat) v, items[i]? = some v → f v = e i := by
  classical
  refine ⟨fun v => if hv : ∃ i : Nat, items[i]? = some v then e hv.choose else false, fun i v hi => ?_⟩
  have hv : ∃ i : Nat, items[i]? = some v := ⟨i, hi⟩
  obtain ⟨d1, hd1, r1⟩ := hd.getv hv.choose_spec
  obtain ⟨d2, hd2, r2⟩ := hd.getv hi
  simp only [dif_pos hv]; exact eqD_cong r1 r2 (he _ _ hd1) (he _ _ hd2)

theorem index_ok {l : Addr} {items : Array Value} {n : Nat} {xs : List D} {v : Value} {x : D} {bs : List Bool} {j : Nat} (rm : Room m A) (st : St B G s) (hl : LstAt s.heap l items n) (hd : RdL G s.heap items.toList xs) (rx : Rd G s.heap v x)
    (he : eqsD x xs = some bs) (hj : firstT bs = some j) (hs : (j : Int) < 2 ^ 63 - 1) (hQ : Post B G s (.int j) Q) : WP B A (call (.builtin "list.index") [.ref l, v]) Q E s := by
  obtain ⟨h1, h2⟩ := eqs_get he
  obtain ⟨j1, j2, j3⟩ := firstT_get hj
  obtain ⟨f, hf⟩ := by_value hd h2
  have hz := hd.size
  have at' : ∀ (i : Nat) (hi : i < items.size), f items[i] = bs.getD i false := fun i hi => hf i _ (by rw [Array.getElem?_toList]; simp [hi])
  have hjz : j < items.size := by rw [hz, ← h1]; exact j1
  refine ⟨call_meets F.slot_list_index (LstAt.is hl).typeIs F.entry_list_index (F.args_list_index_2 _ _) (list_indexAt l items n none #[] v f j hjz hs (by rw [at' j hjz]; exact j2) (fun i hi hij => by rw [at' i hi]; exact j3 i hij)) ⟨hl, fun y hy => ?_, hQ.tok1 st (.int _ _)⟩⟩
  obtain ⟨i, hi⟩ := List.getElem?_of_mem (Array.mem_toList_iff.mpr hy)
  obtain ⟨d, hdi, rdi⟩ := hd.getv hi
  rw [hf i y hi]
  exact (eqD_ok st rdi rx (h2 i d hdi) (by have := rm.line; show A.units + 1 + 8 < cLine; omega)).eq

noncomputable def Mt.id : Mt → String
  | .upper => "str.upper" | .lower => "str.lower" | .join => "str.join" | .bitlen => "int.bit_length" | .index => "list.index"
noncomputable def Mt.T : Mt → String
  | .upper => "str" | .lower => "str" | .join => "str" | .bitlen => "int" | .index => "list"
noncomputable def Mt.name : Mt → Str
  | .upper => "upper" | .lower => "lower" | .join => "join" | .bitlen => "bit_length" | .index => "index"
theorem mt_facts (t : Mt) : PlainAttrs t.T ∧ Slot t.T t.name t.id ∧ typeOf (.builtin t.id) = pure (.type "method_descriptor") := by
  cases t
  · exact ⟨F.plainAttrs_str, F.slot_str_upper, F.type_str_upper⟩
  · exact ⟨F.plainAttrs_str, F.slot_str_lower, F.type_str_lower⟩
  · exact ⟨F.plainAttrs_str, F.slot_str_join, F.type_str_join⟩
  · exact ⟨F.plainAttrs_int, F.slot_int_bit_length, F.type_int_bit_length⟩
  · exact ⟨F.plainAttrs_list, F.slot_list_index, F.type_list_index⟩
theorem mt_look {α : Type} {P : Prop} {x y : Str} {t u : α} {r : List (Str × α)} (h : look ((y, u) :: r) x = some t) (k1 : x = y → u = t → P) (k2 : look r x = some t → P) : P := by
  unfold look at h
  split at h
  · rename_i q; exact k1 (strEq_iff.mp q) (Option.some.inj h)
  · exact k2 h
theorem mtTab_name {x : Str} {t : Mt} (h : look mtTab x = some t) : x = t.name :=
  mt_look h (fun e q => q ▸ e) fun h => mt_look h (fun e q => q ▸ e) fun h => mt_look h (fun e q => q ▸ e) fun h => mt_look h (fun e q => q ▸ e) fun h => mt_look h (fun e q => q ▸ e) fun h => nsd h
noncomputable def isStrD : D → Bool
  | .str _ => true
  | _ => false
noncomputable def isIntD : D → Bool
  | .int _ => true
  | _ => false
noncomputable def isLstD : D → Bool
  | .lst _ => true
  | _ => false
noncomputable def methT : Mt → D → Bool
  | .upper, d => isStrD d
  | .lower, d => isStrD d
  | .join, d => isStrD d
  | .bitlen, d => isIntD d
  | .index, d => isLstD d
theorem isStr_T {o : Value} {d : D} (r : Rd G s.heap o d) (h : isStrD d = true) : s.TypeIs o "str" ∧ (∀ a, o = .ref a → ∃ ob, s.heap.get? a = some ob ∧ ob.dict = none) := by
  unfold isStrD at h
  split at h
  · exact r.strK fun t => ⟨typeIs_str _ _ _, fun _ e => nomatch e⟩
  · cases h
theorem methT_ok {t : Mt} {o : Value} {d : D} (r : Rd G s.heap o d) (h : methT t d = true) : s.TypeIs o t.T ∧ (∀ a, o = .ref a → ∃ ob, s.heap.get? a = some ob ∧ ob.dict = none) := by
  cases t
  case upper => exact isStr_T r h
  case lower => exact isStr_T r h
  case join => exact isStr_T r h
  case bitlen =>
    replace h : isIntD d = true := h
    unfold isIntD at h
    split at h
    · exact r.intK fun t => ⟨typeIs_int _ _ _, fun _ e => nomatch e⟩
    · cases h
  case index =>
    replace h : isLstD d = true := h
    unfold isLstD at h
    split at h
    · exact r.lstK fun a items n ha hl _ => ⟨(LstAt.is hl).typeIs, fun b e => Value.ref.inj e ▸ ⟨_, hl, rfl⟩⟩
    · cases h
theorem upM_T {d r : D} (h : upM d = some r) : isStrD d = true := by
  unfold upM at h
  split at h
  · rfl
  · exact nsd h
theorem lowM_T {d r : D} (h : lowM d = some r) : isStrD d = true := by
  unfold lowM at h
  split at h
  · rfl
  · exact nsd h
theorem joinM_T {d x r : D} (h : joinM d x = some r) : isStrD d = true := by
  unfold joinM at h
  split at h
  · rfl
  · exact nsd h
theorem bitM_T {d r : D} (h : bitM d = some r) : isIntD d = true := by
  unfold bitM at h
  split at h
  · rfl
  · exact nsd h
theorem indexM_T {d x r : D} (h : indexM d x = some r) : isLstD d = true := by
  unfold indexM at h
  split at h
  · rfl
  · exact nsd h
theorem methD_T {t : Mt} {d r : D} {ds : List D} (h : methD t d ds = some r) : methT t d = true := by
  unfold methD at h
  split at h
  · cases t <;> first | exact nsd h | exact upM_T h | exact lowM_T h | exact bitM_T h
  · cases t <;> first | exact nsd h | exact joinM_T h | exact indexM_T h
  · exact nsd h
theorem upM_ok {o : Value} {d r : D} (st : St B G s) (ro : Rd G s.heap o d) (h : upM d = some r) (hQ : Post B G s r Q) : WP B A (call (.builtin Mt.upper.id) [o]) Q E s := by
  unfold upM at h
  split at h
  · rw [upF_eq] at h
    split at h
    · exact nsd h
    · rename_i hf
      exact ro.strK fun t => ⟨call_gives F.slot_str_upper (typeIs_str _ _ _) F.entry_str_upper (F.args_str_upper_1 _) (gives_str_upper _ _ hf) ⟨fit_le hf, (hQ.of h).tok1 st (.str _ _)⟩⟩
  · exact nsd h
theorem lowM_ok {o : Value} {d r : D} (st : St B G s) (ro : Rd G s.heap o d) (h : lowM d = some r) (hQ : Post B G s r Q) : WP B A (call (.builtin Mt.lower.id) [o]) Q E s := by
  unfold lowM at h
  split at h
  · split at h
    · exact nsd h
    · rename_i hf
      exact ro.strK fun t => ⟨call_gives F.slot_str_lower (typeIs_str _ _ _) F.entry_str_lower (F.args_str_lower_1 _) (gives_str_lower _ _ hf) ⟨fit_le hf, (hQ.of h).tok1 st (.str _ _)⟩⟩
  · exact nsd h
theorem joinM_ok {o v : Value} {d x r : D} (st : St B G s) (ro : Rd G s.heap o d) (rv : Rd G s.heap v x) (h : joinM d x = some r) (hQ : Post B G s r Q) : WP B A (call (.builtin Mt.join.id) [o, v]) Q E s := by
  unfold joinM at h
  split at h
  · split at h
    · split at h
      · split at h
        · rename_i hj
          have hi := ‹strsOf _ = some _›
          refine ro.strK fun t => rv.lstK fun a items n ha hl hd => ?_
          obtain ⟨lt, e1, e2⟩ := strs_of hd hi
          have hl' : s.heap.IsList a (strValues lt).toArray := by rw [← e1]; simpa using LstAt.is hl
          exact WP.mt ⟨@SC.join _ _ _ _ _ _ _ _ _ _ _ hl' e2 hj fun t' k ht _ => (hQ.of h).tok st (.str _ _) ht⟩
        · exact nsd h
      · exact nsd h
    · exact nsd h
  · exact nsd h
theorem bitM_ok {o : Value} {d r : D} (st : St B G s) (ro : Rd G s.heap o d) (h : bitM d = some r) (hQ : Post B G s r Q) : WP B A (call (.builtin Mt.bitlen.id) [o]) Q E s := by
  unfold bitM at h
  split at h
  · exact ro.intK fun t => ⟨@PyProof.Rows.call_int_bit_length _ _ _ _ _ _ _ _ ((hQ.of h).tok1 st (.int _ _))⟩
  · exact nsd h
theorem indexM_ok {o v : Value} {d x r : D} (rm : Room m A) (st : St B G s) (ro : Rd G s.heap o d) (rv : Rd G s.heap v x) (h : indexM d x = some r) (hQ : Post B G s r Q) : WP B A (call (.builtin Mt.index.id) [o, v]) Q E s := by
  unfold indexM at h
  split at h
  · split at h
    · split at h
      · rename_i hi _ j hj
        exact ifT h fun hs h => ro.lstK fun a items n ha hl hd => index_ok rm st hl hd rv hi hj hs (hQ.of h)
      · exact nsd h
    · exact nsd h
  · exact nsd h
theorem methD_ok {t : Mt} {o : Value} {vs : List Value} {d r : D} {ds : List D} (rm : Room m A) (st : St B G s) (ro : Rd G s.heap o d) (rs : RdL G s.heap vs ds) (h : methD t d ds = some r) (hQ : Post B G s r Q) :
    WP B A (call (.builtin t.id) (o :: vs)) Q E s := by
  unfold methD at h
  split at h
  · refine rs.nilK ?_
    cases t <;> first | exact nsd h | exact upM_ok st ro h hQ | exact lowM_ok st ro h hQ | exact bitM_ok st ro h hQ
  · obtain ⟨v, rfl, rv⟩ := rs.one
    cases t <;> first | exact nsd h | exact joinM_ok st ro rv h hQ | exact indexM_ok rm st ro rv h hQ
  · exact nsd h
end
end Mine

end
section
open PySem PySem.W PyProof.Rows
set_option Elab.async false
namespace Mine

noncomputable abbrev Gm := List (Str × D)
noncomputable abbrev Kd := List (Str × NameKind)

noncomputable def put : Gm → Str → D → Gm
  | [], x, d => [(x, d)]
  | (y, e) :: r, x, d => match strEq x y with
    | true => (y, d) :: r
    | false => (y, e) :: put r x d
theorem look_put : ∀ (Γ : Gm) (x y : Str) (d : D), look (put Γ x d) y = if y = x then some d else look Γ y
  | [], x, y, d => by
    simp only [put, look]
    cases h : strEq y x with
    | true => have := strEq_iff.mp h; simp [this]
    | false => have : y ≠ x := fun e => by rw [strEq_iff.mpr e] at h; cases h
               simp [this]
  | (z, e) :: r, x, y, d => by
    simp only [put]
    cases h : strEq x z with
    | true =>
      have hz := strEq_iff.mp h; subst hz
      simp only [look]
      cases h2 : strEq y x with
      | true => simp [strEq_iff.mp h2]
      | false => have : y ≠ x := fun e => by rw [strEq_iff.mpr e] at h2; cases h2
                 simp [this]
    | false =>
      have hz : x ≠ z := fun e => by rw [strEq_iff.mpr e] at h; cases h
      simp only [look]
      cases h2 : strEq y z with
      | true => have := strEq_iff.mp h2; subst this; simp [Ne.symm hz]
      | false => simp only [look_put r x y d]

set_option genCtorIdx true in
inductive Kc where
  | no | loc | cel | glo
  deriving DecidableEq
noncomputable def kc : Option NameKind → Kc
  | some .local => .loc
  | some .cell => .cel
  | some .free => .cel
  | some .globalImplicit => .glo
  | _ => .no
noncomputable def Kn (sc : Kd) (env : Env) : Prop := ∀ x, kc (look sc x) = kc (env.kindOf x)

inductive NsSee (G : Gh) (s : Shared) (env : Env) (Γ : Gm) : Prop
  | mk (m : Str → Option Value) (hm : s.heap.Ns env.locals m) (hd : ∀ x d, look Γ x = some d → env.kindOf x = some .local → ∃ v, m x = some v ∧ Rd G s.heap v d) : NsSee G s env Γ
inductive ClSee (B : Bs) (G : Gh) (s : Shared) (env : Env) (Γ : Gm) (x : Str) : Prop
  | mk (c : Addr) (hc : env.cells.lookup x = some c) (ht : c ∉ B.tb) (hz : c < s.heap.objs.size) (hd : ∀ d, look Γ x = some d → ∃ v, s.heap.IsCell c (some v) ∧ Rd G s.heap v d) : ClSee B G s env Γ x
structure Sees (B : Bs) (G : Gh) (s : Shared) (env : Env) (Γ : Gm) : Prop where
  st : St B G s
  kind : env.scope.kind = .function
  glob : env.globals = mainGlobals
  blt : env.builtins = builtinsNs
  lo : env.locals ∉ B.tb
  ns : NsSee G s env Γ
  cl : ∀ x, kc (env.kindOf x) = .cel → ClSee B G s env Γ x

theorem kc_loc {k : Option NameKind} (h : kc k = .loc) : k = some .local := by
  cases k with
  | none => cases h
  | some k => cases k <;> first | rfl | cases h
theorem kc_glo {k : Option NameKind} (h : kc k = .glo) : k = some .globalImplicit := by
  cases k with
  | none => cases h
  | some k => cases k <;> first | rfl | cases h
theorem kc_cel {k : Option NameKind} (h : kc k = .cel) : k = some .cell ∨ k = some .free := by
  cases k with
  | none => cases h
  | some k => cases k <;> first | exact .inl rfl | exact .inr rfl | cases h

section
variable {B : Bs} {A : Around} {G G' : Gh} {s s' : Shared} {env : Env} {Γ : Gm} {E : Value → Shared → Prop}
theorem Sees.kw {W : List Addr} (x : Sees B G s env Γ) (k : Kw B W G s G' s') (hW : ∀ a ∈ W, a ∈ G.O) (h0 : ∀ a ∈ W, B.h0.get? a = none) (hl : env.locals ∉ W) (hc : ∀ y c, env.cells.lookup y = some c → c ∉ W) : Sees B G' s' env Γ := by
  have up := k.up x.st hW
  refine ⟨x.st.kw k h0, x.kind, x.glob, x.blt, x.lo, ?_, fun y hy => ?_⟩
  · obtain ⟨m, hm, hd⟩ := x.ns
    refine ⟨m, k.kp.ns (fun q => (List.mem_append.mp q).elim hl x.lo) hm, fun y d hy hk => ?_⟩
    obtain ⟨v, hv, r⟩ := hd y d hy hk
    exact ⟨v, hv, r.up up⟩
  · obtain ⟨c, hcl, hct, hcz, hd⟩ := x.cl y hy
    refine ⟨c, hcl, hct, Nat.lt_of_lt_of_le hcz k.sz, fun d hyd => ?_⟩
    obtain ⟨v, hv, r⟩ := hd d hyd
    exact ⟨v, k.kp.cell (fun q => (List.mem_append.mp q).elim (hc y c hcl) hct) hv, r.up up⟩
theorem Sees.ke (x : Sees B G s env Γ) (k : Ke B G s G' s') : Sees B G' s' env Γ := x.kw k (fun _ h => nomatch h) (fun _ h => nomatch h) (fun h => nomatch h) fun _ _ _ h => nomatch h
theorem Sees.less {Γ' : Gm} (x : Sees B G s env Γ) (h : ∀ y d, look Γ' y = some d → look Γ y = some d) : Sees B G s env Γ' := by
  refine ⟨x.st, x.kind, x.glob, x.blt, x.lo, ?_, fun y hy => ?_⟩
  · obtain ⟨m, hm, hd⟩ := x.ns
    exact ⟨m, hm, fun y d hy hk => hd y d (h y d hy) hk⟩
  · obtain ⟨c, hcl, hct, hcz, hd⟩ := x.cl y hy
    exact ⟨c, hcl, hct, hcz, fun d hyd => hd d (h y d hyd)⟩
theorem Sees.gh {G' : Gh} (x : Sees B G s env Γ) (st : St B G' s) (up : Up G s.heap G' s.heap) : Sees B G' s env Γ := by
  refine ⟨st, x.kind, x.glob, x.blt, x.lo, ?_, fun y hy => ?_⟩
  · obtain ⟨m, hm, hd⟩ := x.ns
    exact ⟨m, hm, fun y d hy hk => let ⟨v, hv, r⟩ := hd y d hy hk; ⟨v, hv, r.up up⟩⟩
  · obtain ⟨c, hcl, hct, hcz, hd⟩ := x.cl y hy
    exact ⟨c, hcl, hct, hcz, fun d hyd => let ⟨v, hv, r⟩ := hd d hyd; ⟨v, hv, r.up up⟩⟩

theorem load_loc {x : Str} {d : D} {Q : Value → Shared → Prop} (se : Sees B G s env Γ) (hk : env.kindOf x = some .local) (hd : look Γ x = some d) (hQ : Post B G s d Q) : WP B A (loadName env x) Q E s := by
  obtain ⟨m, hm, h⟩ := se.ns
  obtain ⟨v, hv, r⟩ := h x d hd hk
  exact ⟨@wpAny_loadName_local _ _ _ _ _ _ _ _ _ se.kind hk hm hv (hQ.val se.st r)⟩
theorem load_cel {x : Str} {d : D} {Q : Value → Shared → Prop} (se : Sees B G s env Γ) (hk : kc (env.kindOf x) = .cel) (hd : look Γ x = some d) (hx : (x == ("__classdict__" : Str)) = false) (hQ : Post B G s d Q) : WP B A (loadName env x) Q E s := by
  obtain ⟨c, hc, _, _, h⟩ := se.cl x hk
  obtain ⟨v, hv, r⟩ := h d hd
  rcases kc_cel hk with q | q
  · exact ⟨@wpAny_loadName_cell _ _ _ _ _ _ _ _ _ se.kind q hc hv (hQ.val se.st r)⟩
  · exact ⟨@wpAny_loadName_free _ _ _ _ _ _ _ _ _ se.kind q hc hv (hQ.val se.st r) hx⟩
theorem loadName_global {x : Str} {Q : Value → Shared → Prop} (hk : env.scope.kind = .function) (hx : env.kindOf x = some .globalImplicit) (h : WP B A (loadGlobal env x) Q E s) : WP B A (loadName env x) Q E s := by
  unfold loadName
  simp only [Env.blockKind, hk, hx, ScopeKind.isAnnotationScope, Bool.false_and, Bool.false_eq_true, if_false]
  exact h
end

structure Own (B : Bs) (G : Gh) (s : Shared) (sc : Kd) (env : Env) (W : List Addr) : Prop where
  sub : ∀ a ∈ W, a ∈ G.O
  new : ∀ a ∈ W, B.h0.get? a = none
  loc : env.locals ∈ W
  kl : ∀ x, look sc x = some .local → env.kindOf x = some .local
  cel : ∀ x, look sc x = some .cell → env.kindOf x = some .cell ∧ ∃ c v, env.cells.lookup x = some c ∧ s.heap.IsCell c v ∧ c ∈ W ∧ ∀ y, env.cells.lookup y = some c → y = x

theorem Own.tb {B : Bs} {G : Gh} {s : Shared} {sc : Kd} {env : Env} {W : List Addr} (o : Own B G s sc env W) {a : Addr} (ha : a ∈ W) : a ∉ B.tb := fun h => by
  obtain ⟨vs, e⟩ := B.tab.some h
  rw [o.new a ha] at e; cases e

theorem Own.kw {B : Bs} {G G' : Gh} {s s' : Shared} {sc : Kd} {env : Env} {W X : List Addr} (o : Own B G s sc env W) (k : Kw B X G s G' s') (hX : ∀ x c, look sc x = some .cell → env.cells.lookup x = some c → c ∉ X) : Own B G' s' sc env W := by
  refine ⟨fun a ha => k.o ▸ o.sub a ha, o.new, o.loc, o.kl, fun x hx => ?_⟩
  obtain ⟨h1, c, v, hc, hv, hw, ha⟩ := o.cel x hx
  exact ⟨h1, c, v, hc, k.kp.cell (fun q => (List.mem_append.mp q).elim (hX x c hx hc) (o.tb hw)) hv, hw, ha⟩
theorem Own.ke {B : Bs} {G G' : Gh} {s s' : Shared} {sc : Kd} {env : Env} {W : List Addr} (o : Own B G s sc env W) (k : Ke B G s G' s') : Own B G' s' sc env W := o.kw k fun _ _ _ _ h => nomatch h

noncomputable def ownAddrs (env : Env) : List Addr := env.locals :: env.cells.map (·.2)
theorem lookup_mem {x : Str} {c : Addr} : ∀ {l : List (Str × Addr)}, l.lookup x = some c → c ∈ l.map (·.2) := fun h => List.mem_map.mpr ⟨(x, c), mem_of_lookup h, rfl⟩

section
variable {B : Bs} {A : Around} {G : Gh} {s : Shared} {sc : Kd} {env : Env} {Γ : Gm} {W : List Addr} {E : Value → Shared → Prop}
theorem not_class {env : Env} (hk : env.scope.kind = .function) : (env.scope.kind == .class || (env.scope.kind == .module && env.locals != env.globals)) = false := by rw [hk]; rfl

theorem store_ok {x : Str} {v : Value} {d : D} {Q : Unit → Shared → Prop} (se : Sees B G s env Γ) (o : Own B G s sc env W) (hx : look sc x = some .local ∨ look sc x = some .cell) (r : Rd G s.heap v d)
    (hQ : ∀ s', Kw B (ownAddrs env) G s G s' → Kw B W G s G s' → Sees B G s' env (put Γ x d) → Own B G s' sc env W → Q () s') : WP B A (storeName env x v) Q E s := by
  rcases hx with hx | hx
  · have hk := o.kl x hx
    obtain ⟨m, hm, hd⟩ := se.ns
    refine ⟨@wpAny_storeName_local _ _ _ _ _ _ _ _ _ hk hm (fun h' hm' hs' => ?_) (not_class se.kind)⟩
    have htb := o.tb o.loc
    have kw : Kw B [env.locals] G s G { s with heap := h', toks := s.toks + 1 } := Kw.same1 se.st (List.mem_singleton.mpr rfl) htb hs' (Nat.le_succ _) (.ns hm)
    have hsub : ∀ a ∈ [env.locals], a ∈ G.O := fun a ha => by rw [List.mem_singleton.mp ha]; exact o.sub _ o.loc
    have up := kw.up se.st hsub
    have nocell : ∀ {c v}, s.heap.IsCell c v → c ∉ [env.locals] := fun {c v} hc hmem => by
      rw [List.mem_singleton.mp hmem] at hc
      obtain ⟨o1, e1, d1⟩ := hc
      obtain ⟨o2, es, ep, e2, d2, _⟩ := hm
      rw [e1] at e2; cases e2; rw [d1] at d2; cases d2
    refine hQ _ (kw.mono fun a ha => by rw [List.mem_singleton.mp ha]; exact List.mem_cons_self) (kw.mono fun a ha => by rw [List.mem_singleton.mp ha]; exact o.loc) ⟨se.st.kw kw fun a ha => by rw [List.mem_singleton.mp ha]; exact o.new _ o.loc, se.kind, se.glob, se.blt, se.lo, ⟨_, hm', fun y e hy hky => ?_⟩, fun y hy => ?_⟩ ?_
    · rw [look_put] at hy
      by_cases hyx : y = x
      · subst hyx; rw [if_pos rfl] at hy; cases hy; exact ⟨v, if_pos rfl, r.up up⟩
      · rw [if_neg hyx] at hy
        obtain ⟨v', hv', r'⟩ := hd y e hy hky
        exact ⟨v', by rw [if_neg hyx]; exact hv', r'.up up⟩
    · obtain ⟨c, hc, hct, hcz, hcd⟩ := se.cl y hy
      refine ⟨c, hc, hct, Nat.lt_of_lt_of_le hcz kw.sz, fun e he => ?_⟩
      rw [look_put] at he
      by_cases hyx : y = x
      · subst hyx; rw [hk] at hy; cases hy
      · rw [if_neg hyx] at he
        obtain ⟨v', hv', r'⟩ := hcd e he
        exact ⟨v', kw.kp.cell (fun q => (List.mem_append.mp q).elim (nocell hv') hct) hv', r'.up up⟩
    · refine o.kw kw fun y c hy hc => ?_
      obtain ⟨_, c', v', hc', hv', _⟩ := o.cel y hy
      rw [hc] at hc'; cases hc'
      exact nocell hv'
  · obtain ⟨hk, c, v₀, hc, hv, hw, ha⟩ := o.cel x hx
    refine ⟨@wpAny_storeName_cell _ _ _ _ _ _ _ _ _ _ se.kind hk hc hv fun h' hv' hs' => ?_⟩
    have htb := o.tb hw
    have kw : Kw B [c] G s G { s with heap := h' } := Kw.same1 se.st (List.mem_singleton.mpr rfl) htb hs' (Nat.le_refl _) (.cell hv)
    have hsub : ∀ a ∈ [c], a ∈ G.O := fun a ha => by rw [List.mem_singleton.mp ha]; exact o.sub _ hw
    have up := kw.up se.st hsub
    have hlc : env.locals ∉ [c] := fun hmem => by
      rw [← List.mem_singleton.mp hmem] at hv
      obtain ⟨o1, e1, d1⟩ := hv
      obtain ⟨m, ⟨o2, es, ep, e2, d2, _⟩, _⟩ := se.ns
      rw [e1] at e2; cases e2; rw [d1] at d2; cases d2
    have hcm : c ∈ ownAddrs env := List.mem_cons_of_mem _ (lookup_mem hc)
    refine hQ _ (kw.mono fun a ha => by rw [List.mem_singleton.mp ha]; exact hcm) (kw.mono fun a ha => by rw [List.mem_singleton.mp ha]; exact hw) ⟨se.st.kw kw fun a ha => by rw [List.mem_singleton.mp ha]; exact o.new _ hw, se.kind, se.glob, se.blt, se.lo, ?_, fun y hy => ?_⟩ ?_
    · obtain ⟨m, hm, hd⟩ := se.ns
      refine ⟨m, kw.kp.ns (fun q => (List.mem_append.mp q).elim hlc se.lo) hm, fun y e hy hky => ?_⟩
      rw [look_put] at hy
      by_cases hyx : y = x
      · subst hyx; rw [hk] at hky; cases hky
      · rw [if_neg hyx] at hy
        obtain ⟨v', hv', r'⟩ := hd y e hy hky
        exact ⟨v', hv', r'.up up⟩
    · obtain ⟨c', hc', hct, hcz, hcd⟩ := se.cl y hy
      refine ⟨c', hc', hct, Nat.lt_of_lt_of_le hcz kw.sz, fun e he => ?_⟩
      rw [look_put] at he
      by_cases hyx : y = x
      · subst hyx
        rw [if_pos rfl] at he; cases he
        rw [hc] at hc'; cases hc'
        exact ⟨v, hv', r.up up⟩
      · rw [if_neg hyx] at he
        obtain ⟨v', hv'', r'⟩ := hcd e he
        have hne : c' ≠ c := fun e => hyx (ha y (e ▸ hc'))
        exact ⟨v', kw.kp.cell (fun q => (List.mem_append.mp q).elim (fun q => hne (List.mem_singleton.mp q)) hct) hv'', r'.up up⟩
    · refine ⟨o.sub, o.new, o.loc, o.kl, fun y hy => ?_⟩
      obtain ⟨h1, c', v', hc', hv'', hw', ha'⟩ := o.cel y hy
      by_cases hyx : y = x
      · subst hyx; rw [hc] at hc'; cases hc'
        exact ⟨h1, c, _, hc, hv', hw', ha'⟩
      · have hne : c' ≠ c := fun e => hyx (ha y (e ▸ hc'))
        exact ⟨h1, c', v', hc', kw.kp.cell (fun q => (List.mem_append.mp q).elim (fun q => hne (List.mem_singleton.mp q)) (o.tb hw')) hv'', hw', ha'⟩
end
end Mine

end
section
open PySem PySem.W PyProof.Rows
set_option Elab.async false
namespace Mine

noncomputable def storable (sc : Kd) (x : Str) : Bool := match look sc x with
  | some .local => true
  | some .cell => true
  | _ => false
theorem storable_iff {sc : Kd} {x : Str} (h : storable sc x = true) : look sc x = some .local ∨ look sc x = some .cell := by
  unfold storable at h
  cases e : look sc x with
  | none => rw [e] at h; exact nft h
  | some k => rw [e] at h; cases k <;> first | exact nft h | exact .inl rfl | exact .inr rfl
noncomputable def optP {α : Type} (P : α → Prop) (o : Option α) : Prop := Option.casesOn o True P
noncomputable def nameOf (e : Expr) : Option (Str) := @Expr.casesOn (fun _ => Option (Str)) e (fun _ _ _ => none) (fun _ _ _ => none) (fun _ _ _ _ => none) (fun _ _ _ => none) (fun _ _ _ _ => none) (fun _ _ _ _ => none) (fun _ _ _ => none) (fun _ _ _ => none) (fun _ _ _ _ => none) (fun _ _ _ _ => none) (fun _ _ _ _ _ => none) (fun _ _ _ _ => none) (fun _ _ => none) (fun _ _ => none) (fun _ _ => none) (fun _ _ _ _ => none) (fun _ _ _ _ => none) (fun _ _ _ _ => none) (fun _ _ => none) (fun _ _ _ => none) (fun _ _ _ => none) (fun _ _ _ => none) (fun _ _ => none) (fun x0 x1 => some x0) (fun _ _ => none) (fun _ _ _ => none) (fun _ _ _ _ => none)
theorem nameOf_is (e : Expr) : optP (fun p : Str => ∃ q, e = .Name p q) (nameOf e) := @Expr.casesOn (fun e => optP (fun p : Str => ∃ q, e = .Name p q) (nameOf e)) e (fun _ _ _ => trivial) (fun _ _ _ => trivial) (fun _ _ _ _ => trivial) (fun _ _ _ => trivial) (fun _ _ _ _ => trivial) (fun _ _ _ _ => trivial) (fun _ _ _ => trivial) (fun _ _ _ => trivial) (fun _ _ _ _ => trivial) (fun _ _ _ _ => trivial) (fun _ _ _ _ _ => trivial) (fun _ _ _ _ => trivial) (fun _ _ => trivial) (fun _ _ => trivial) (fun _ _ => trivial) (fun _ _ _ _ => trivial) (fun _ _ _ _ => trivial) (fun _ _ _ _ => trivial) (fun _ _ => trivial) (fun _ _ _ => trivial) (fun _ _ _ => trivial) (fun _ _ _ => trivial) (fun _ _ => trivial) (fun _ _ => ⟨_, rfl⟩) (fun _ _ => trivial) (fun _ _ _ => trivial) (fun _ _ _ _ => trivial)
theorem nameOf_some {e : Expr} {x : Str} (h : nameOf e = some x) : ∃ p, e = .Name x p := by have := nameOf_is e; rw [h] at this; exact this
noncomputable def slcOf (e : Expr) : Option (Option Expr × Option Expr × Option Expr) := @Expr.casesOn (fun _ => Option (Option Expr × Option Expr × Option Expr)) e (fun _ _ _ => none) (fun _ _ _ => none) (fun _ _ _ _ => none) (fun _ _ _ => none) (fun _ _ _ _ => none) (fun _ _ _ _ => none) (fun _ _ _ => none) (fun _ _ _ => none) (fun _ _ _ _ => none) (fun _ _ _ _ => none) (fun _ _ _ _ _ => none) (fun _ _ _ _ => none) (fun _ _ => none) (fun _ _ => none) (fun _ _ => none) (fun _ _ _ _ => none) (fun _ _ _ _ => none) (fun _ _ _ _ => none) (fun _ _ => none) (fun _ _ _ => none) (fun _ _ _ => none) (fun _ _ _ => none) (fun _ _ => none) (fun _ _ => none) (fun _ _ => none) (fun _ _ _ => none) (fun x0 x1 x2 x3 => some (x0, x1, x2))
theorem slcOf_is (e : Expr) : optP (fun p : Option Expr × Option Expr × Option Expr => ∃ q, e = .Slice p.1 p.2.1 p.2.2 q) (slcOf e) := @Expr.casesOn (fun e => optP (fun p : Option Expr × Option Expr × Option Expr => ∃ q, e = .Slice p.1 p.2.1 p.2.2 q) (slcOf e)) e (fun _ _ _ => trivial) (fun _ _ _ => trivial) (fun _ _ _ _ => trivial) (fun _ _ _ => trivial) (fun _ _ _ _ => trivial) (fun _ _ _ _ => trivial) (fun _ _ _ => trivial) (fun _ _ _ => trivial) (fun _ _ _ _ => trivial) (fun _ _ _ _ => trivial) (fun _ _ _ _ _ => trivial) (fun _ _ _ _ => trivial) (fun _ _ => trivial) (fun _ _ => trivial) (fun _ _ => trivial) (fun _ _ _ _ => trivial) (fun _ _ _ _ => trivial) (fun _ _ _ _ => trivial) (fun _ _ => trivial) (fun _ _ _ => trivial) (fun _ _ _ => trivial) (fun _ _ _ => trivial) (fun _ _ => trivial) (fun _ _ => trivial) (fun _ _ => trivial) (fun _ _ _ => trivial) (fun _ _ _ _ => ⟨_, rfl⟩)
theorem slcOf_eq {e : Expr} {q : Option Expr × Option Expr × Option Expr} (h : slcOf e = some q) : ∃ p, e = .Slice q.1 q.2.1 q.2.2 p := by have := slcOf_is e; rw [h] at this; exact this
noncomputable def tupO (e : Expr) : Option (List Expr × Nat × Pos) := @Expr.casesOn (fun _ => Option (List Expr × Nat × Pos)) e (fun _ _ _ => none) (fun _ _ _ => none) (fun _ _ _ _ => none) (fun _ _ _ => none) (fun _ _ _ _ => none) (fun _ _ _ _ => none) (fun _ _ _ => none) (fun _ _ _ => none) (fun _ _ _ _ => none) (fun _ _ _ _ => none) (fun _ _ _ _ _ => none) (fun _ _ _ _ => none) (fun _ _ => none) (fun _ _ => none) (fun _ _ => none) (fun _ _ _ _ => none) (fun _ _ _ _ => none) (fun _ _ _ _ => none) (fun _ _ => none) (fun _ _ _ => none) (fun _ _ _ => none) (fun _ _ _ => none) (fun _ _ => none) (fun _ _ => none) (fun _ _ => none) (fun x0 x1 x2 => some (x0, x1, x2)) (fun _ _ _ _ => none)
theorem tupO_is (e : Expr) : optP (fun p : List Expr × Nat × Pos => e = .Tuple p.1 p.2.1 p.2.2) (tupO e) := @Expr.casesOn (fun e => optP (fun p : List Expr × Nat × Pos => e = .Tuple p.1 p.2.1 p.2.2) (tupO e)) e (fun _ _ _ => trivial) (fun _ _ _ => trivial) (fun _ _ _ _ => trivial) (fun _ _ _ => trivial) (fun _ _ _ _ => trivial) (fun _ _ _ _ => trivial) (fun _ _ _ => trivial) (fun _ _ _ => trivial) (fun _ _ _ _ => trivial) (fun _ _ _ _ => trivial) (fun _ _ _ _ _ => trivial) (fun _ _ _ _ => trivial) (fun _ _ => trivial) (fun _ _ => trivial) (fun _ _ => trivial) (fun _ _ _ _ => trivial) (fun _ _ _ _ => trivial) (fun _ _ _ _ => trivial) (fun _ _ => trivial) (fun _ _ _ => trivial) (fun _ _ _ => trivial) (fun _ _ _ => trivial) (fun _ _ => trivial) (fun _ _ => trivial) (fun _ _ => trivial) (fun _ _ _ => rfl) (fun _ _ _ _ => trivial)
theorem tupO_eq {e : Expr} {p : List Expr × Nat × Pos} (h : tupO e = some p) : e = .Tuple p.1 p.2.1 p.2.2 := by have := tupO_is e; rw [h] at this; exact this
noncomputable def lstEO (e : Expr) : Option (List Expr × Pos) := @Expr.casesOn (fun _ => Option (List Expr × Pos)) e (fun _ _ _ => none) (fun _ _ _ => none) (fun _ _ _ _ => none) (fun _ _ _ => none) (fun _ _ _ _ => none) (fun _ _ _ _ => none) (fun _ _ _ => none) (fun _ _ _ => none) (fun _ _ _ _ => none) (fun _ _ _ _ => none) (fun _ _ _ _ _ => none) (fun _ _ _ _ => none) (fun _ _ => none) (fun _ _ => none) (fun _ _ => none) (fun _ _ _ _ => none) (fun _ _ _ _ => none) (fun _ _ _ _ => none) (fun _ _ => none) (fun _ _ _ => none) (fun _ _ _ => none) (fun _ _ _ => none) (fun _ _ => none) (fun _ _ => none) (fun x0 x1 => some (x0, x1)) (fun _ _ _ => none) (fun _ _ _ _ => none)
theorem lstEO_is (e : Expr) : optP (fun p : List Expr × Pos => e = .List p.1 p.2) (lstEO e) := @Expr.casesOn (fun e => optP (fun p : List Expr × Pos => e = .List p.1 p.2) (lstEO e)) e (fun _ _ _ => trivial) (fun _ _ _ => trivial) (fun _ _ _ _ => trivial) (fun _ _ _ => trivial) (fun _ _ _ _ => trivial) (fun _ _ _ _ => trivial) (fun _ _ _ => trivial) (fun _ _ _ => trivial) (fun _ _ _ _ => trivial) (fun _ _ _ _ => trivial) (fun _ _ _ _ _ => trivial) (fun _ _ _ _ => trivial) (fun _ _ => trivial) (fun _ _ => trivial) (fun _ _ => trivial) (fun _ _ _ _ => trivial) (fun _ _ _ _ => trivial) (fun _ _ _ _ => trivial) (fun _ _ => trivial) (fun _ _ _ => trivial) (fun _ _ _ => trivial) (fun _ _ _ => trivial) (fun _ _ => trivial) (fun _ _ => trivial) (fun _ _ => rfl) (fun _ _ _ => trivial) (fun _ _ _ _ => trivial)
theorem lstEO_eq {e : Expr} {p : List Expr × Pos} (h : lstEO e = some p) : e = .List p.1 p.2 := by have := lstEO_is e; rw [h] at this; exact this
noncomputable def lcO (e : Expr) : Option (Expr × List Comprehension × Scope × Pos) := @Expr.casesOn (fun _ => Option (Expr × List Comprehension × Scope × Pos)) e (fun _ _ _ => none) (fun _ _ _ => none) (fun _ _ _ _ => none) (fun _ _ _ => none) (fun _ _ _ _ => none) (fun _ _ _ _ => none) (fun _ _ _ => none) (fun _ _ _ => none) (fun x0 x1 x2 x3 => some (x0, x1, x2, x3)) (fun _ _ _ _ => none) (fun _ _ _ _ _ => none) (fun _ _ _ _ => none) (fun _ _ => none) (fun _ _ => none) (fun _ _ => none) (fun _ _ _ _ => none) (fun _ _ _ _ => none) (fun _ _ _ _ => none) (fun _ _ => none) (fun _ _ _ => none) (fun _ _ _ => none) (fun _ _ _ => none) (fun _ _ => none) (fun _ _ => none) (fun _ _ => none) (fun _ _ _ => none) (fun _ _ _ _ => none)
theorem lcO_is (e : Expr) : optP (fun p : Expr × List Comprehension × Scope × Pos => e = .ListComp p.1 p.2.1 p.2.2.1 p.2.2.2) (lcO e) := @Expr.casesOn (fun e => optP (fun p : Expr × List Comprehension × Scope × Pos => e = .ListComp p.1 p.2.1 p.2.2.1 p.2.2.2) (lcO e)) e (fun _ _ _ => trivial) (fun _ _ _ => trivial) (fun _ _ _ _ => trivial) (fun _ _ _ => trivial) (fun _ _ _ _ => trivial) (fun _ _ _ _ => trivial) (fun _ _ _ => trivial) (fun _ _ _ => trivial) (fun _ _ _ _ => rfl) (fun _ _ _ _ => trivial) (fun _ _ _ _ _ => trivial) (fun _ _ _ _ => trivial) (fun _ _ => trivial) (fun _ _ => trivial) (fun _ _ => trivial) (fun _ _ _ _ => trivial) (fun _ _ _ _ => trivial) (fun _ _ _ _ => trivial) (fun _ _ => trivial) (fun _ _ _ => trivial) (fun _ _ _ => trivial) (fun _ _ _ => trivial) (fun _ _ => trivial) (fun _ _ => trivial) (fun _ _ => trivial) (fun _ _ _ => trivial) (fun _ _ _ _ => trivial)
theorem lcO_eq {e : Expr} {p : Expr × List Comprehension × Scope × Pos} (h : lcO e = some p) : e = .ListComp p.1 p.2.1 p.2.2.1 p.2.2.2 := by have := lcO_is e; rw [h] at this; exact this
noncomputable def subO (e : Expr) : Option (Expr × Expr × Pos) := @Expr.casesOn (fun _ => Option (Expr × Expr × Pos)) e (fun _ _ _ => none) (fun _ _ _ => none) (fun _ _ _ _ => none) (fun _ _ _ => none) (fun _ _ _ _ => none) (fun _ _ _ _ => none) (fun _ _ _ => none) (fun _ _ _ => none) (fun _ _ _ _ => none) (fun _ _ _ _ => none) (fun _ _ _ _ _ => none) (fun _ _ _ _ => none) (fun _ _ => none) (fun _ _ => none) (fun _ _ => none) (fun _ _ _ _ => none) (fun _ _ _ _ => none) (fun _ _ _ _ => none) (fun _ _ => none) (fun _ _ _ => none) (fun _ _ _ => none) (fun x0 x1 x2 => some (x0, x1, x2)) (fun _ _ => none) (fun _ _ => none) (fun _ _ => none) (fun _ _ _ => none) (fun _ _ _ _ => none)
theorem subO_is (e : Expr) : optP (fun p : Expr × Expr × Pos => e = .Subscript p.1 p.2.1 p.2.2) (subO e) := @Expr.casesOn (fun e => optP (fun p : Expr × Expr × Pos => e = .Subscript p.1 p.2.1 p.2.2) (subO e)) e (fun _ _ _ => trivial) (fun _ _ _ => trivial) (fun _ _ _ _ => trivial) (fun _ _ _ => trivial) (fun _ _ _ _ => trivial) (fun _ _ _ _ => trivial) (fun _ _ _ => trivial) (fun _ _ _ => trivial) (fun _ _ _ _ => trivial) (fun _ _ _ _ => trivial) (fun _ _ _ _ _ => trivial) (fun _ _ _ _ => trivial) (fun _ _ => trivial) (fun _ _ => trivial) (fun _ _ => trivial) (fun _ _ _ _ => trivial) (fun _ _ _ _ => trivial) (fun _ _ _ _ => trivial) (fun _ _ => trivial) (fun _ _ _ => trivial) (fun _ _ _ => trivial) (fun _ _ _ => rfl) (fun _ _ => trivial) (fun _ _ => trivial) (fun _ _ => trivial) (fun _ _ _ => trivial) (fun _ _ _ _ => trivial)
theorem subO_eq {e : Expr} {p : Expr × Expr × Pos} (h : subO e = some p) : e = .Subscript p.1 p.2.1 p.2.2 := by have := subO_is e; rw [h] at this; exact this
noncomputable def cmpO (e : Expr) : Option (Expr × List CmpOp × List Expr × Pos) := @Expr.casesOn (fun _ => Option (Expr × List CmpOp × List Expr × Pos)) e (fun _ _ _ => none) (fun _ _ _ => none) (fun _ _ _ _ => none) (fun _ _ _ => none) (fun _ _ _ _ => none) (fun _ _ _ _ => none) (fun _ _ _ => none) (fun _ _ _ => none) (fun _ _ _ _ => none) (fun _ _ _ _ => none) (fun _ _ _ _ _ => none) (fun _ _ _ _ => none) (fun _ _ => none) (fun _ _ => none) (fun _ _ => none) (fun x0 x1 x2 x3 => some (x0, x1, x2, x3)) (fun _ _ _ _ => none) (fun _ _ _ _ => none) (fun _ _ => none) (fun _ _ _ => none) (fun _ _ _ => none) (fun _ _ _ => none) (fun _ _ => none) (fun _ _ => none) (fun _ _ => none) (fun _ _ _ => none) (fun _ _ _ _ => none)
theorem cmpO_is (e : Expr) : optP (fun p : Expr × List CmpOp × List Expr × Pos => e = .Compare p.1 p.2.1 p.2.2.1 p.2.2.2) (cmpO e) := @Expr.casesOn (fun e => optP (fun p : Expr × List CmpOp × List Expr × Pos => e = .Compare p.1 p.2.1 p.2.2.1 p.2.2.2) (cmpO e)) e (fun _ _ _ => trivial) (fun _ _ _ => trivial) (fun _ _ _ _ => trivial) (fun _ _ _ => trivial) (fun _ _ _ _ => trivial) (fun _ _ _ _ => trivial) (fun _ _ _ => trivial) (fun _ _ _ => trivial) (fun _ _ _ _ => trivial) (fun _ _ _ _ => trivial) (fun _ _ _ _ _ => trivial) (fun _ _ _ _ => trivial) (fun _ _ => trivial) (fun _ _ => trivial) (fun _ _ => trivial) (fun _ _ _ _ => rfl) (fun _ _ _ _ => trivial) (fun _ _ _ _ => trivial) (fun _ _ => trivial) (fun _ _ _ => trivial) (fun _ _ _ => trivial) (fun _ _ _ => trivial) (fun _ _ => trivial) (fun _ _ => trivial) (fun _ _ => trivial) (fun _ _ _ => trivial) (fun _ _ _ _ => trivial)
theorem cmpO_eq {e : Expr} {p : Expr × List CmpOp × List Expr × Pos} (h : cmpO e = some p) : e = .Compare p.1 p.2.1 p.2.2.1 p.2.2.2 := by have := cmpO_is e; rw [h] at this; exact this
noncomputable def calO (e : Expr) : Option (Expr × List Expr × List Keyword × Pos) := @Expr.casesOn (fun _ => Option (Expr × List Expr × List Keyword × Pos)) e (fun _ _ _ => none) (fun _ _ _ => none) (fun _ _ _ _ => none) (fun _ _ _ => none) (fun _ _ _ _ => none) (fun _ _ _ _ => none) (fun _ _ _ => none) (fun _ _ _ => none) (fun _ _ _ _ => none) (fun _ _ _ _ => none) (fun _ _ _ _ _ => none) (fun _ _ _ _ => none) (fun _ _ => none) (fun _ _ => none) (fun _ _ => none) (fun _ _ _ _ => none) (fun x0 x1 x2 x3 => some (x0, x1, x2, x3)) (fun _ _ _ _ => none) (fun _ _ => none) (fun _ _ _ => none) (fun _ _ _ => none) (fun _ _ _ => none) (fun _ _ => none) (fun _ _ => none) (fun _ _ => none) (fun _ _ _ => none) (fun _ _ _ _ => none)
theorem calO_is (e : Expr) : optP (fun p : Expr × List Expr × List Keyword × Pos => e = .Call p.1 p.2.1 p.2.2.1 p.2.2.2) (calO e) := @Expr.casesOn (fun e => optP (fun p : Expr × List Expr × List Keyword × Pos => e = .Call p.1 p.2.1 p.2.2.1 p.2.2.2) (calO e)) e (fun _ _ _ => trivial) (fun _ _ _ => trivial) (fun _ _ _ _ => trivial) (fun _ _ _ => trivial) (fun _ _ _ _ => trivial) (fun _ _ _ _ => trivial) (fun _ _ _ => trivial) (fun _ _ _ => trivial) (fun _ _ _ _ => trivial) (fun _ _ _ _ => trivial) (fun _ _ _ _ _ => trivial) (fun _ _ _ _ => trivial) (fun _ _ => trivial) (fun _ _ => trivial) (fun _ _ => trivial) (fun _ _ _ _ => trivial) (fun _ _ _ _ => rfl) (fun _ _ _ _ => trivial) (fun _ _ => trivial) (fun _ _ _ => trivial) (fun _ _ _ => trivial) (fun _ _ _ => trivial) (fun _ _ => trivial) (fun _ _ => trivial) (fun _ _ => trivial) (fun _ _ _ => trivial) (fun _ _ _ _ => trivial)
theorem calO_eq {e : Expr} {p : Expr × List Expr × List Keyword × Pos} (h : calO e = some p) : e = .Call p.1 p.2.1 p.2.2.1 p.2.2.2 := by have := calO_is e; rw [h] at this; exact this
noncomputable def attO (e : Expr) : Option (Expr × Str × Pos) := @Expr.casesOn (fun _ => Option (Expr × Str × Pos)) e (fun _ _ _ => none) (fun _ _ _ => none) (fun _ _ _ _ => none) (fun _ _ _ => none) (fun _ _ _ _ => none) (fun _ _ _ _ => none) (fun _ _ _ => none) (fun _ _ _ => none) (fun _ _ _ _ => none) (fun _ _ _ _ => none) (fun _ _ _ _ _ => none) (fun _ _ _ _ => none) (fun _ _ => none) (fun _ _ => none) (fun _ _ => none) (fun _ _ _ _ => none) (fun _ _ _ _ => none) (fun _ _ _ _ => none) (fun _ _ => none) (fun _ _ _ => none) (fun x0 x1 x2 => some (x0, x1, x2)) (fun _ _ _ => none) (fun _ _ => none) (fun _ _ => none) (fun _ _ => none) (fun _ _ _ => none) (fun _ _ _ _ => none)
theorem attO_is (e : Expr) : optP (fun p : Expr × Str × Pos => e = .Attribute p.1 p.2.1 p.2.2) (attO e) := @Expr.casesOn (fun e => optP (fun p : Expr × Str × Pos => e = .Attribute p.1 p.2.1 p.2.2) (attO e)) e (fun _ _ _ => trivial) (fun _ _ _ => trivial) (fun _ _ _ _ => trivial) (fun _ _ _ => trivial) (fun _ _ _ _ => trivial) (fun _ _ _ _ => trivial) (fun _ _ _ => trivial) (fun _ _ _ => trivial) (fun _ _ _ _ => trivial) (fun _ _ _ _ => trivial) (fun _ _ _ _ _ => trivial) (fun _ _ _ _ => trivial) (fun _ _ => trivial) (fun _ _ => trivial) (fun _ _ => trivial) (fun _ _ _ _ => trivial) (fun _ _ _ _ => trivial) (fun _ _ _ _ => trivial) (fun _ _ => trivial) (fun _ _ _ => trivial) (fun _ _ _ => rfl) (fun _ _ _ => trivial) (fun _ _ => trivial) (fun _ _ => trivial) (fun _ _ => trivial) (fun _ _ _ => trivial) (fun _ _ _ _ => trivial)
theorem attO_eq {e : Expr} {p : Expr × Str × Pos} (h : attO e = some p) : e = .Attribute p.1 p.2.1 p.2.2 := by have := attO_is e; rw [h] at this; exact this
noncomputable def asgO (e : Stmt) : Option (List Expr × Expr × Pos) := @Stmt.casesOn (fun _ => Option (List Expr × Expr × Pos)) e (fun _ _ _ _ _ _ _ _ _ _ => none) (fun _ _ _ _ _ _ _ _ _ _ => none) (fun _ _ _ _ _ _ _ _ _ _ _ => none) (fun _ _ => none) (fun _ _ => none) (fun x0 x1 x2 => some (x0, x1, x2)) (fun _ _ _ _ _ _ _ => none) (fun _ _ _ _ => none) (fun _ _ _ _ _ => none) (fun _ _ _ _ _ => none) (fun _ _ _ _ _ => none) (fun _ _ _ _ => none) (fun _ _ _ _ => none) (fun _ _ _ => none) (fun _ _ _ => none) (fun _ _ _ => none) (fun _ _ _ => none) (fun _ _ _ _ _ => none) (fun _ _ _ _ _ => none) (fun _ _ _ => none) (fun _ _ => none) (fun _ _ _ _ => none) (fun _ _ => none) (fun _ _ => none) (fun _ _ => none) (fun _ => none) (fun _ => none) (fun _ => none)
theorem asgO_is (e : Stmt) : optP (fun p : List Expr × Expr × Pos => e = .Assign p.1 p.2.1 p.2.2) (asgO e) := @Stmt.casesOn (fun e => optP (fun p : List Expr × Expr × Pos => e = .Assign p.1 p.2.1 p.2.2) (asgO e)) e (fun _ _ _ _ _ _ _ _ _ _ => trivial) (fun _ _ _ _ _ _ _ _ _ _ => trivial) (fun _ _ _ _ _ _ _ _ _ _ _ => trivial) (fun _ _ => trivial) (fun _ _ => trivial) (fun _ _ _ => rfl) (fun _ _ _ _ _ _ _ => trivial) (fun _ _ _ _ => trivial) (fun _ _ _ _ _ => trivial) (fun _ _ _ _ _ => trivial) (fun _ _ _ _ _ => trivial) (fun _ _ _ _ => trivial) (fun _ _ _ _ => trivial) (fun _ _ _ => trivial) (fun _ _ _ => trivial) (fun _ _ _ => trivial) (fun _ _ _ => trivial) (fun _ _ _ _ _ => trivial) (fun _ _ _ _ _ => trivial) (fun _ _ _ => trivial) (fun _ _ => trivial) (fun _ _ _ _ => trivial) (fun _ _ => trivial) (fun _ _ => trivial) (fun _ _ => trivial) (fun _ => trivial) (fun _ => trivial) (fun _ => trivial)
theorem asgO_eq {e : Stmt} {p : List Expr × Expr × Pos} (h : asgO e = some p) : e = .Assign p.1 p.2.1 p.2.2 := by have := asgO_is e; rw [h] at this; exact this
noncomputable def iffO (e : Stmt) : Option (Expr × List Stmt × List Stmt × Pos) := @Stmt.casesOn (fun _ => Option (Expr × List Stmt × List Stmt × Pos)) e (fun _ _ _ _ _ _ _ _ _ _ => none) (fun _ _ _ _ _ _ _ _ _ _ => none) (fun _ _ _ _ _ _ _ _ _ _ _ => none) (fun _ _ => none) (fun _ _ => none) (fun _ _ _ => none) (fun _ _ _ _ _ _ _ => none) (fun _ _ _ _ => none) (fun _ _ _ _ _ => none) (fun _ _ _ _ _ => none) (fun _ _ _ _ _ => none) (fun _ _ _ _ => none) (fun x0 x1 x2 x3 => some (x0, x1, x2, x3)) (fun _ _ _ => none) (fun _ _ _ => none) (fun _ _ _ => none) (fun _ _ _ => none) (fun _ _ _ _ _ => none) (fun _ _ _ _ _ => none) (fun _ _ _ => none) (fun _ _ => none) (fun _ _ _ _ => none) (fun _ _ => none) (fun _ _ => none) (fun _ _ => none) (fun _ => none) (fun _ => none) (fun _ => none)
theorem iffO_is (e : Stmt) : optP (fun p : Expr × List Stmt × List Stmt × Pos => e = .If p.1 p.2.1 p.2.2.1 p.2.2.2) (iffO e) := @Stmt.casesOn (fun e => optP (fun p : Expr × List Stmt × List Stmt × Pos => e = .If p.1 p.2.1 p.2.2.1 p.2.2.2) (iffO e)) e (fun _ _ _ _ _ _ _ _ _ _ => trivial) (fun _ _ _ _ _ _ _ _ _ _ => trivial) (fun _ _ _ _ _ _ _ _ _ _ _ => trivial) (fun _ _ => trivial) (fun _ _ => trivial) (fun _ _ _ => trivial) (fun _ _ _ _ _ _ _ => trivial) (fun _ _ _ _ => trivial) (fun _ _ _ _ _ => trivial) (fun _ _ _ _ _ => trivial) (fun _ _ _ _ _ => trivial) (fun _ _ _ _ => trivial) (fun _ _ _ _ => rfl) (fun _ _ _ => trivial) (fun _ _ _ => trivial) (fun _ _ _ => trivial) (fun _ _ _ => trivial) (fun _ _ _ _ _ => trivial) (fun _ _ _ _ _ => trivial) (fun _ _ _ => trivial) (fun _ _ => trivial) (fun _ _ _ _ => trivial) (fun _ _ => trivial) (fun _ _ => trivial) (fun _ _ => trivial) (fun _ => trivial) (fun _ => trivial) (fun _ => trivial)
theorem iffO_eq {e : Stmt} {p : Expr × List Stmt × List Stmt × Pos} (h : iffO e = some p) : e = .If p.1 p.2.1 p.2.2.1 p.2.2.2 := by have := iffO_is e; rw [h] at this; exact this
noncomputable def bindNs (sc : Kd) : List Expr → List D → Gm → Option Gm
  | [], ds, Γ => cond ds.isEmpty (some Γ) none
  | e :: es, ds, Γ => match ds with
    | [] => none
    | d :: ds => (nameOf e).bind fun x => tst (storable sc x) (bindNs sc es ds (put Γ x d))
theorem bindNs_nil {sc : Kd} {ds : List D} {Γ Γ' : Gm} (h : bindNs sc [] ds Γ = some Γ') : ds = [] ∧ Γ = Γ' := by
  cases ds with
  | nil => exact ⟨rfl, Option.some.inj h⟩
  | cons => exact nsd h
theorem bindNs_inv {sc : Kd} {e : Expr} {es : List Expr} {ds : List D} {Γ Γ' : Gm} (h : bindNs sc (e :: es) ds Γ = some Γ') :
    ∃ x p d ds', e = .Name x p ∧ ds = d :: ds' ∧ storable sc x = true ∧ bindNs sc es ds' (put Γ x d) = some Γ' := by
  cases ds with
  | nil => exact nsd h
  | cons d ds =>
    obtain ⟨x, hx, h2⟩ := bnd (f := fun x => tst (storable sc x) (bindNs sc es ds (put Γ x d))) h
    obtain ⟨hs, h3⟩ := tst_inv h2
    obtain ⟨p, hp⟩ := nameOf_some hx
    exact ⟨x, p, d, ds, hp, rfl, hs, h3⟩
noncomputable def bindT (sc : Kd) (t : Expr) (d : D) (Γ : Gm) : Option Gm := match t with
  | .Name x _ => tst (storable sc x) (some (put Γ x d))
  | .Tuple es _ _ => (tupOf1 d).bind fun ds => bindNs sc es ds Γ
  | _ => none
inductive BndT (sc : Kd) (d : D) (Γ Γ' : Gm) : Expr → Prop
  | name {x : Str} {p : Pos} (hx : storable sc x = true) (e : put Γ x d = Γ') : BndT sc d Γ Γ' (.Name x p)
  | tup {es : List Expr} {c : Nat} {p : Pos} {ds : List D} (e : d = .tup ds) (h : bindNs sc es ds Γ = some Γ') : BndT sc d Γ Γ' (.Tuple es c p)
theorem bindT_inv {sc : Kd} {t : Expr} {d : D} {Γ Γ' : Gm} (h : bindT sc t d Γ = some Γ') : BndT sc d Γ Γ' t := by
  cases t <;> first | exact nsd h | skip
  case Name x p =>
    obtain ⟨hx, h⟩ := tst_inv (b := storable sc x) (o := some (put Γ x d)) h
    exact .name hx (Option.some.inj h)
  case Tuple es c p =>
    obtain ⟨ds, e, h⟩ := bnd (f := fun ds => bindNs sc es ds Γ) h
    exact .tup (tupOf1_eq e) h

section
variable {B : Bs} {A : Around} {G : Gh} {s : Shared} {sc : Kd} {env : Env} {Γ Γ' : Gm} {W : List Addr} {E : Value → Shared → Prop} {m : Nat}

structure Stored (B : Bs) (G : Gh) (s : Shared) (sc : Kd) (env : Env) (W : List Addr) (Γ' : Gm) (s' : Shared) : Prop where
  ka : Kw B (ownAddrs env) G s G s'
  kw : Kw B W G s G s'
  se : Sees B G s' env Γ'
  ow : Own B G s' sc env W

theorem bindNs_len : ∀ {es : List Expr} {ds : List D} {Γ Γ' : Gm}, bindNs sc es ds Γ = some Γ' → (assignEach es env).length = ds.length ∧ (assignEach es env).findIdx? (·.1) = none
  | [], _, _, _, h => by rw [(bindNs_nil h).1]; exact ⟨rfl, rfl⟩
  | e :: es, _, Γ, Γ', h => by
    obtain ⟨x, p, d, ds, rfl, rfl, _, h⟩ := bindNs_inv h
    obtain ⟨h1, h2⟩ := bindNs_len h
    refine ⟨congrArg (· + 1) h1, ?_⟩
    show ((false, assign (.Name x p) env) :: assignEach es env).findIdx? (·.1) = none
    rw [List.findIdx?_cons, h2]; rfl

theorem RdL.up' {G G' : Gh} {h h' : Heap} {vs : List Value} {ds : List D} (r : RdL G h vs ds) (u : Up G h G' h') : RdL G' h' vs ds := r.up u

theorem bindNs_ok : ∀ {es : List Expr} {ds : List D} {vs : List Value} {Γ Γ' : Gm} {s : Shared} {Q : Unit → Shared → Prop}, bindNs sc es ds Γ = some Γ' → Sees B G s env Γ → Own B G s sc env W → RdL G s.heap vs ds →
    (∀ s', Stored B G s sc env W Γ' s' → Q () s') → WP B A (assignInOrder ((assignEach es env).map (·.2)) vs) Q E s
  | [], _, vs, Γ, Γ', s, Q, h, se, ow, r, hQ => by
    obtain ⟨rfl, rfl⟩ := bindNs_nil h
    exact r.nilK (WP.pure (hQ s ⟨.refl se.st, .refl se.st, se, ow⟩))
  | e :: es, _, vs, Γ, Γ', s, Q, h, se, ow, r, hQ => by
    obtain ⟨x, p, d, ds, rfl, rfl, hx, h⟩ := bindNs_inv h
    refine r.consK fun v vs rv rs => ?_
    show WP B A (do holding vs (assign (.Name x p) env v); assignInOrder ((assignEach es env).map (·.2)) vs) Q E s
    refine WP.bind (WP.holding ⟨@wpAny_assign_Name _ _ _ _ _ _ _ _ _ (store_ok se ow (storable_iff hx) rv fun s1 ka kw se1 ow1 => ?_).w⟩)
    exact bindNs_ok h se1 ow1 (rs.up' (kw.up se.st ow.sub)) fun s2 st2 => hQ s2 ⟨ka.trans st2.ka, kw.trans st2.kw, st2.se, st2.ow⟩

theorem unpackItems_ok {a : Addr} {items : Array Value} {n : Nat} {ds : List D} {Q : List Value → Shared → Prop} (rm : Room m A) (st : St B G s) (hl : TupAt s.heap a items n) (hd : RdL G s.heap items.toList ds)
    (hQ : ∀ s', Ke B G s G s' → Q items.toList s') : WP B A (unpackItems (.ref a) ds.length none) Q E s := by
  rw [← hd.size]
  exact WP.mt ⟨@wpAny_unpackItems_tuple _ _ _ _ _ _ _ _ rm.hd (TupAt.is hl) fun h' hx ht hz => hQ _ (Ke.of st (fun b o e => hx b o (Nat.ne_of_lt (Heap.lt_size e)) e) (Nat.le_refl _) hz)⟩

theorem assign_ok {t : Expr} {d : D} {v : Value} {Q : Unit → Shared → Prop} (rm : Room m A) (h : bindT sc t d Γ = some Γ') (se : Sees B G s env Γ) (ow : Own B G s sc env W) (r : Rd G s.heap v d)
    (hQ : ∀ s', Stored B G s sc env W Γ' s' → Q () s') : WP B A (assign t env v) Q E s := by
  cases bindT_inv h with
  | name hx e => exact ⟨@wpAny_assign_Name _ _ _ _ _ _ _ _ _ (store_ok se ow (storable_iff hx) r fun s1 ka kw se1 ow1 => hQ s1 (e ▸ ⟨ka, kw, se1, ow1⟩)).w⟩
  | tup e h =>
      subst e
      refine r.tupK fun a items n ha hl hd => ?_
      obtain ⟨h1, h2⟩ := bindNs_len (env := env) h
      rw [arm_assign_Tuple]
      refine WP.bind (WP.standAt ?_)
      unfold unpack
      rw [h1, h2]
      refine WP.bind (WP.holding (unpackItems_ok rm se.st hl hd fun s1 k1 => ?_))
      exact bindNs_ok h (se.ke k1) (ow.ke k1) (hd.ke se.st k1) fun s2 st2 => hQ s2 ⟨(Kw.of_ke k1).trans st2.ka, (Kw.of_ke k1).trans st2.kw, st2.se, st2.ow⟩

end
end Mine

end
section
open PySem PySem.W PyProof.Rows
set_option Elab.async false
namespace Mine

structure Kx (B : Bs) (W : List Addr) (G : Gh) (s : Shared) (G' : Gh) (s' : Shared) : Prop where
  kw : Kw B W G s { G' with O := G.O } s'
  o : ∀ a ∈ G'.O, a ∈ G.O ∨ s.heap.objs.size ≤ a
  sub : ∀ a ∈ B.tb, a ∈ G'.O
  lt : ∀ a ∈ G'.O, a < s'.heap.objs.size

section
variable {B : Bs} {W W' : List Addr} {G G' G'' : Gh} {s s' s'' : Shared}
theorem Kx.of_kw (st : St B G s) (k : Kw B W G s G' s') : Kx B W G s G' s' := by
  have e : G' = { G' with O := G.O } := by rw [← k.o]
  exact ⟨e ▸ k, fun a ha => .inl (k.o ▸ ha), fun a ha => k.o ▸ st.sub a ha, fun a ha => Nat.lt_of_lt_of_le (st.lt a (k.o ▸ ha)) k.sz⟩
theorem Kx.refl (st : St B G s) : Kx B W G s G s := .of_kw st (.refl st)
theorem Kx.up (k : Kx B W G s G' s') (st : St B G s) (hW : ∀ a ∈ W, a ∈ G.O) : Up G s.heap G' s'.heap :=
  ⟨k.kw.kp.mono fun b hb => (List.mem_append.mp hb).elim (hW b) (st.sub b), fun a ha => (k.o a ha).imp id Heap.get?_none_of_le, k.kw.n, k.kw.τ⟩
theorem Kx.st (k : Kx B W G s G' s') (st : St B G s) (hW : ∀ a ∈ W, B.h0.get? a = none) : St B G' s' := by
  have x := st.kw k.kw hW
  exact ⟨x.kp, x.tg, k.sub, k.lt, x.tk, x.pos⟩
theorem Kx.trans (k : Kx B W G s G' s') (k' : Kx B W' G' s' G'' s'') (h : ∀ a ∈ W', a ∈ W ∨ s.heap.objs.size ≤ a) : Kx B W G s G'' s'' := by
  refine ⟨⟨?_, fun b o hb e => ?_, k.kw.tg.trans k'.kw.tg, k.kw.cd.trans k'.kw.cd, Nat.le_trans k.kw.sz k'.kw.sz, rfl, Nat.le_trans k.kw.n k'.kw.n, fun t ht => (k'.kw.τ t (Nat.lt_of_lt_of_le ht k.kw.n)).trans (k.kw.τ t ht), k'.kw.tk⟩, fun a ha => ?_, k'.sub, k'.lt⟩
  · obtain ⟨h1, t1, e1⟩ := k.kw.same
    obtain ⟨h2, t2, e2⟩ := k'.kw.same
    exact ⟨h2, t2, by rw [e2, e1]⟩
  · refine k'.kw.kp b o (fun m => ?_) (k.kw.kp b o hb e)
    rcases List.mem_append.mp m with q | q
    · rcases h b q with r | r
      · exact hb (List.mem_append_left _ r)
      · exact Nat.not_lt.mpr r (Heap.lt_size e)
    · exact hb (List.mem_append_right _ q)
  · rcases k'.o a ha with q | q
    · exact k.o a q
    · exact .inr (Nat.le_trans k.kw.sz q)
theorem Kx.mono (k : Kx B W G s G' s') (h : ∀ a ∈ W, a ∈ W') : Kx B W' G s G' s' := ⟨k.kw.mono h, k.o, k.sub, k.lt⟩
theorem Kx.of_ke (st : St B G s) (k : Ke B G s G' s') : Kx B W G s G' s' := .of_kw st (.of_ke k)
theorem Kx.ke (k : Kx B W G s G' s') (k' : Ke B G' s' G'' s'') (st : St B G' s') : Kx B W G s G'' s'' := k.trans (.of_ke (W := W) st k') fun _ h => .inl h
theorem Kx.own (st : St B G s) (k : Ke B G s G' s') {O' : List Addr} (h : ∀ a ∈ O', a ∈ G.O ∨ (s.heap.objs.size ≤ a ∧ a < s'.heap.objs.size)) (hs : ∀ a ∈ G.O, a ∈ O') : Kx B W G s { G' with O := O' } s' := by
  have e : ({ G' with O := G.O } : Gh) = G' := by rw [← k.o]
  refine ⟨?_, fun a ha => (h a ha).imp id And.left, fun a ha => hs a (st.sub a ha), fun a ha => (h a ha).elim (fun q => Nat.lt_of_lt_of_le (st.lt a q) k.sz) And.right⟩
  show Kw B W G s { G' with O := G.O } s'
  rw [e]; exact .of_ke k
theorem Kx.free (k : Kx B W G s G' s') {O' : List Addr} (h : ∀ a ∈ O', a ∈ G'.O) (ht : ∀ a ∈ B.tb, a ∈ O') : Kx B W G s { G' with O := O' } s' :=
  ⟨k.kw, fun a ha => k.o a (h a ha), ht, fun a ha => k.lt a (h a ha)⟩
theorem Up.free {G : Gh} {h : Heap} {O' : List Addr} (hO : ∀ a ∈ O', a ∈ G.O) : Up G h { G with O := O' } h := ⟨Kp.refl _ _, fun a ha => .inl (hO a ha), Nat.le_refl _, fun _ _ => rfl⟩
theorem St.free {G : Gh} {s : Shared} {O' : List Addr} (x : St B G s) (hO : ∀ a ∈ O', a ∈ G.O) (ht : ∀ a ∈ B.tb, a ∈ O') : St B { G with O := O' } s := ⟨x.kp, x.tg, ht, fun a ha => x.lt a (hO a ha), x.tk, x.pos⟩
theorem Kx.sz (k : Kx B W G s G' s') : s.heap.objs.size ≤ s'.heap.objs.size := k.kw.sz

variable {env : Env} {Γ : Gm}
theorem Sees.kx (x : Sees B G s env Γ) (k : Kx B W G s G' s') (hW : ∀ a ∈ W, a ∈ G.O) (h0 : ∀ a ∈ W, B.h0.get? a = none) (hl : env.locals ∉ W) (hc : ∀ y c, env.cells.lookup y = some c → c ∉ W) : Sees B G' s' env Γ := by
  have up := k.up x.st hW
  refine ⟨k.st x.st h0, x.kind, x.glob, x.blt, x.lo, ?_, fun y hy => ?_⟩
  · obtain ⟨m, hm, hd⟩ := x.ns
    refine ⟨m, k.kw.kp.ns (fun q => (List.mem_append.mp q).elim hl x.lo) hm, fun y d hy hk => ?_⟩
    obtain ⟨v, hv, r⟩ := hd y d hy hk
    exact ⟨v, hv, r.up up⟩
  · obtain ⟨c, hcl, hct, hcz, hd⟩ := x.cl y hy
    refine ⟨c, hcl, hct, Nat.lt_of_lt_of_le hcz k.kw.sz, fun d hyd => ?_⟩
    obtain ⟨v, hv, r⟩ := hd d hyd
    exact ⟨v, k.kw.kp.cell (fun q => (List.mem_append.mp q).elim (hc y c hcl) hct) hv, r.up up⟩
theorem Sees.k0 (x : Sees B G s env Γ) (k : Kx B [] G s G' s') : Sees B G' s' env Γ := x.kx k (fun _ h => nomatch h) (fun _ h => nomatch h) (fun h => nomatch h) fun _ _ _ h => nomatch h
theorem Own.k0 {sc : Kd} {V : List Addr} (o : Own B G s sc env V) (k : Kx B [] G s G' s') (hV : ∀ a ∈ V, a ∈ G'.O) : Own B G' s' sc env V := by
  refine ⟨hV, o.new, o.loc, o.kl, fun x hx => ?_⟩
  obtain ⟨h1, c, v, hc, hv, hw, ha⟩ := o.cel x hx
  exact ⟨h1, c, v, hc, k.kw.kp.cell (fun q => o.tb hw (by simpa using q)) hv, hw, ha⟩
theorem Own.gh {sc : Kd} {V : List Addr} {G' : Gh} (o : Own B G s sc env V) (hV : ∀ a ∈ V, a ∈ G'.O) : Own B G' s sc env V := ⟨hV, o.new, o.loc, o.kl, o.cel⟩
theorem Src.kx {A : Around} {I : Addr} {xs : List D} (src : Src B A I G s xs) (k : Kx B W G s G' s') (st : St B G s) (hW : ∀ a ∈ W, a ∈ G.O) (hI : I ∉ W) (hIt : I ∉ B.tb) : Src B A I G' s' xs := by
  obtain ⟨fp, n, i, P, S, W', hS, hn, hfp, hP, hob⟩ := src.has
  have up := k.up st hW
  refine ⟨fp, n, i, P, S, W', W'.frame i _ _ hS fun b hb o e => ?_, hn, fun b hb => (hfp b hb).imp id fun h => ⟨fun m => (k.o b m).elim h.1 (Nat.not_le.mpr h.2), Nat.lt_of_lt_of_le h.2 k.kw.sz⟩, fun j v d hv hd => (hP j v d hv hd).up up, hob⟩
  refine k.kw.kp b o (fun m => ?_) e
  rcases List.mem_append.mp m with h | h
  · rcases hfp b hb with q | q
    · exact hI (q ▸ h)
    · exact q.1 (hW b h)
  · rcases hfp b hb with q | q
    · exact hIt (q ▸ h)
    · exact q.1 (st.sub b h)
end

theorem cellsFrom_acc : ∀ (names : List (Str × NameKind)) (n : Nat) (acc : List (Str × Addr)), cellsFrom n names acc = cellsFrom n names [] ++ acc
  | [], _, _ => rfl
  | (x, k) :: r, n, acc => by
    unfold cellsFrom
    split
    · rw [cellsFrom_acc r (n + 1) ((x, n) :: acc), cellsFrom_acc r (n + 1) [(x, n)], List.append_assoc]; rfl
    · exact cellsFrom_acc r n acc
theorem cellsFrom_mem : ∀ {names : List (Str × NameKind)} {n : Nat} {x : Str} {c : Addr}, (x, c) ∈ cellsFrom n names [] → (x, NameKind.cell) ∈ names
  | [], _, _, _, h => by cases h
  | (y, k) :: r, n, x, c, h => by
    unfold cellsFrom at h
    split at h
    · rename_i hk
      rw [cellsFrom_acc] at h
      rcases List.mem_append.mp h with q | q
      · exact List.mem_cons_of_mem _ (cellsFrom_mem q)
      · have e := List.mem_singleton.mp q
        cases e
        have : k = .cell := by cases k <;> first | rfl | cases hk
        subst this; exact List.mem_cons_self
    · exact List.mem_cons_of_mem _ (cellsFrom_mem h)
theorem cellsFrom_some : ∀ {names : List (Str × NameKind)} {n : Nat} {x : Str}, (x, NameKind.cell) ∈ names → ∃ c, (cellsFrom n names []).lookup x = some c
  | (y, k) :: r, n, x, h => by
    unfold cellsFrom
    rcases List.mem_cons.mp h with q | q
    · have e1 := (Prod.mk.inj q).1; have e2 := (Prod.mk.inj q).2; subst e1; subst e2
      rw [if_pos (by decide), cellsFrom_acc, List.lookup_append]
      cases e : (cellsFrom (n + 1) r []).lookup x with
      | some c => exact ⟨c, rfl⟩
      | none => exact ⟨n, by simp⟩
    · split
      · rw [cellsFrom_acc, List.lookup_append]
        obtain ⟨c, hc⟩ := cellsFrom_some (n := n + 1) q
        exact ⟨c, by rw [hc]; rfl⟩
      · exact cellsFrom_some q

noncomputable def hasKey {α : Type} (x : Str) : List (Str × α) → Bool
  | [] => false
  | (y, _) :: r => match strEq x y with
    | true => true
    | false => hasKey x r
noncomputable def once {α : Type} : List (Str × α) → Bool
  | [] => true
  | (x, _) :: r => match hasKey x r with
    | true => false
    | false => once r
theorem hasKey_mem {α : Type} {x : Str} : ∀ {l : List (Str × α)} {k : α}, (x, k) ∈ l → hasKey x l = true
  | (y, j) :: r, k, h => by
    unfold hasKey
    cases e : strEq x y with
    | true => rfl
    | false =>
      rcases List.mem_cons.mp h with q | q
      · cases q; rw [strEq_iff.mpr rfl] at e; cases e
      · exact hasKey_mem q
theorem look_of_mem {α : Type} : ∀ {l : List (Str × α)} {x : Str} {k : α}, once l = true → (x, k) ∈ l → look l x = some k
  | (y, j) :: r, x, k, ho, h => by
    unfold once at ho
    cases hk : hasKey y r with
    | true => rw [hk] at ho; first | exact nsd ho | exact nft ho | exact ntf ho | cases ho
    | false =>
      rw [hk] at ho
      unfold look
      rcases List.mem_cons.mp h with q | q
      · cases q; rw [strEq_iff.mpr rfl]
      · cases e : strEq x y with
        | true => rw [strEq_iff.mp e] at q; rw [hasKey_mem q] at hk; cases hk
        | false => exact look_of_mem ho q
theorem mem_of_look {α : Type} {l : List (Str × α)} {x : Str} {k : α} (h : look l x = some k) : (x, k) ∈ l := by
  rw [look_eq] at h; exact mem_of_lookup h

theorem pushCells_size : ∀ (names : List (Str × NameKind)) (h : Heap), h.objs.size ≤ (pushCells h names).objs.size
  | [], _ => Nat.le_refl _
  | (_, k) :: r, h => by
    unfold pushCells
    split
    · exact Nat.le_trans (by rw [Heap.size_push]; exact Nat.le_succ _) (pushCells_size r _)
    · exact pushCells_size r h

noncomputable def closOf (cells : List (Str × Addr)) : List (Str × NameKind) → List (Str × Addr) → List (Str × Addr)
  | [], acc => acc
  | (x, k) :: r, acc => if k == .free then closOf cells r ((x, (cells.lookup x).getD 0) :: acc) else closOf cells r acc
theorem closureFor_go {env : Env} (f : Str × NameKind → List (Str × Addr) → Sem (ForInStep (List (Str × Addr))))
    (hf : ∀ x k cs, f (x, k) cs = if k == .free then (do let a ← cellOf env x; pure (.yield ((x, a) :: cs))) else pure (.yield cs)) :
    ∀ (names : List (Str × NameKind)) (acc : List (Str × Addr)), (∀ x, (x, NameKind.free) ∈ names → ∃ c, env.cells.lookup x = some c) → forIn names acc f = pure (closOf env.cells names acc)
  | [], acc, _ => by rw [List.forIn_nil]; rfl
  | (x, k) :: r, acc, h => by
    rw [List.forIn_cons, hf]
    unfold closOf
    have hr : ∀ y, (y, NameKind.free) ∈ r → ∃ c, env.cells.lookup y = some c := fun y hy => h y (List.mem_cons_of_mem _ hy)
    split
    · rename_i hk
      have : k = .free := by cases k <;> first | rfl | cases hk
      subst this
      obtain ⟨c, hc⟩ := h x List.mem_cons_self
      unfold cellOf
      rw [hc]
      show (pure (ForInStep.yield ((x, c) :: acc)) >>= _) = _
      rw [pure_bind]
      exact closureFor_go f hf r _ hr
    · rw [pure_bind]
      exact closureFor_go f hf r _ hr
theorem closureFor_ok {scope : Scope} {env : Env} (h : ∀ x, (x, NameKind.free) ∈ scope.names → ∃ c, env.cells.lookup x = some c) : closureFor scope env = pure (closOf env.cells scope.names []) := by
  unfold closureFor
  show (forIn scope.names [] _ >>= fun cs => pure cs) = _
  rw [closureFor_go _ (fun x k cs => by cases hk : k == NameKind.free <;> simp [hk]) _ _ h, pure_bind]
theorem closOf_acc (cells : List (Str × Addr)) : ∀ (names : List (Str × NameKind)) (acc : List (Str × Addr)), closOf cells names acc = closOf cells names [] ++ acc
  | [], _ => rfl
  | (x, k) :: r, acc => by
    unfold closOf
    split
    · rw [closOf_acc cells r ((x, _) :: acc), closOf_acc cells r [(x, _)], List.append_assoc]; rfl
    · exact closOf_acc cells r acc
theorem closOf_mem {cells : List (Str × Addr)} : ∀ {names : List (Str × NameKind)} {x : Str} {c : Addr}, (x, c) ∈ closOf cells names [] → (x, NameKind.free) ∈ names ∧ c = (cells.lookup x).getD 0
  | [], _, _, h => by cases h
  | (y, k) :: r, x, c, h => by
    unfold closOf at h
    split at h
    · rename_i hk
      rw [closOf_acc] at h
      rcases List.mem_append.mp h with q | q
      · exact ⟨List.mem_cons_of_mem _ (closOf_mem q).1, (closOf_mem q).2⟩
      · have e := List.mem_singleton.mp q
        cases e
        have : k = .free := by cases k <;> first | rfl | cases hk
        subst this; exact ⟨List.mem_cons_self, rfl⟩
    · exact ⟨List.mem_cons_of_mem _ (closOf_mem h).1, (closOf_mem h).2⟩
theorem closOf_some {cells : List (Str × Addr)} : ∀ {names : List (Str × NameKind)} {x : Str}, (x, NameKind.free) ∈ names → (closOf cells names []).lookup x = some ((cells.lookup x).getD 0)
  | (y, k) :: r, x, h => by
    unfold closOf
    rcases List.mem_cons.mp h with q | q
    · have e1 := (Prod.mk.inj q).1; have e2 := (Prod.mk.inj q).2; subst e1; subst e2
      rw [if_pos (by decide), closOf_acc, List.lookup_append]
      cases e : (closOf cells r []).lookup x with
      | some c => rw [(closOf_mem (mem_of_lookup e)).2]; rfl
      | none => simp
    · split
      · rw [closOf_acc, List.lookup_append, closOf_some q]; rfl
      · exact closOf_some q
end Mine

end
section
open PySem PySem.W PyProof.Rows
set_option Elab.async false
namespace Mine

structure Clo (B : Bs) (G : Gh) (s : Shared) (names : Kd) (cl : List (Str × Addr)) (Γ : Gm) : Prop where
  old : ∀ x c, (x, c) ∈ cl → c < s.heap.objs.size
  nt : ∀ x c, cl.lookup x = some c → c ∉ B.tb
  has : ∀ x, (x, NameKind.free) ∈ names → ∃ c, cl.lookup x = some c ∧ ∀ d, look Γ x = some d → ∃ v, s.heap.IsCell c (some v) ∧ Rd G s.heap v d
  only : ∀ x d, look Γ x = some d → (x, NameKind.free) ∈ names

noncomputable def bindPs : Gm → List Str → List D → Gm
  | Γ, x :: xs, d :: ds => bindPs (put Γ x d) xs ds
  | Γ, _, _ => Γ

section
variable {B : Bs} {A : Around} {G : Gh} {sc : Kd} {env : Env} {W : List Addr} {E : Value → Shared → Prop}
theorem stores_ok (f : Str × Value → PUnit → Sem (ForInStep PUnit)) (hf : ∀ n v u, f (n, v) u = (do storeName env n v; pure (.yield ⟨⟩))) : ∀ {binds : List (Str × Value)} {ds : List D} {Γ : Gm} {s : Shared} {Q : PUnit → Shared → Prop},
    (∀ p ∈ binds, storable sc p.1 = true) → Sees B G s env Γ → Own B G s sc env W → RdL G s.heap (binds.map (·.2)) ds →
    (∀ s', Kw B W G s G s' → Sees B G s' env (bindPs Γ (binds.map (·.1)) ds) → Own B G s' sc env W → Q ⟨⟩ s') → WP B A (forIn binds ⟨⟩ f) Q E s := by
  intro binds
  induction binds with
  | nil =>
    intro ds Γ s Q _ se ow r hQ
    rw [List.forIn_nil]
    exact WP.pure (hQ s (.refl se.st) (by cases ds <;> exact se) ow)
  | cons p binds ih =>
    intro ds Γ s Q hb se ow r hQ
    obtain ⟨x, v⟩ := p
    rw [List.forIn_cons, hf]
    cases r with | cons rv rs =>
    refine WP.bind (WP.bind (store_ok se ow (storable_iff (hb _ List.mem_cons_self)) rv fun s1 ka kw se1 ow1 => WP.pure ?_))
    have up := kw.up se.st ow.sub
    exact ih (fun p hp => hb p (List.mem_cons_of_mem _ hp)) se1 ow1 (rs.up' up) fun s2 k2 se2 ow2 => hQ s2 (kw.trans k2) se2 ow2
end

noncomputable def newW (s : Shared) (names : Kd) : List Addr := s.heap.objs.size :: (cellsFrom (s.heap.objs.size + 1) names []).map (·.2)

section
variable {B : Bs} {A : Around} {G : Gh} {s : Shared} {Γ : Gm} {E : Value → Shared → Prop}
theorem newEnv_cells (scope : Scope) (L g : Addr) (cells : List (Str × Addr)) (q : Str) (f : Option Addr) (c : Value) (ar : Option Env) (b : Addr) : (newEnv scope L g cells q f c ar b).cells = cells := by cases ar <;> rfl
theorem newEnv_scope (scope : Scope) (L g : Addr) (cells : List (Str × Addr)) (q : Str) (f : Option Addr) (c : Value) (ar : Option Env) (b : Addr) : (newEnv scope L g cells q f c ar b).scope = scope := by cases ar <;> rfl
theorem newEnv_locals (scope : Scope) (L g : Addr) (cells : List (Str × Addr)) (q : Str) (f : Option Addr) (c : Value) (ar : Option Env) (b : Addr) : (newEnv scope L g cells q f c ar b).locals = L := by cases ar <;> rfl
theorem newEnv_globals (scope : Scope) (L g : Addr) (cells : List (Str × Addr)) (q : Str) (f : Option Addr) (c : Value) (ar : Option Env) (b : Addr) : (newEnv scope L g cells q f c ar b).globals = g := by cases ar <;> rfl

theorem enter_ok {scope : Scope} {cl : List (Str × Addr)} {binds : List (Str × Value)} {ds : List D} {qual : Str} {func : Option Addr} {code : Value} {around : Option Env} {builtins : Addr} {Q : Env → Shared → Prop}
    (hk : scope.kind = .function) (ho : once scope.names = true) (st : St B G s) (hc : Clo B G s scope.names cl Γ) (hb : ∀ p ∈ binds, storable scope.names p.1 = true) (r : RdL G s.heap (binds.map (·.2)) ds)
    (hbl : (newEnv scope s.heap.objs.size mainGlobals (cellsFrom (s.heap.objs.size + 1) scope.names cl) qual func code around builtins).builtins = builtinsNs)
    (hQ : ∀ env G' s', env = newEnv scope s.heap.objs.size mainGlobals (cellsFrom (s.heap.objs.size + 1) scope.names cl) qual func code around builtins → Kx B [] G s G' s' → G' = { G with O := newW s scope.names ++ G.O } →
      Sees B G' s' env (bindPs Γ (binds.map (·.1)) ds) → Own B G' s' scope.names env (newW s scope.names) → (∀ a ∈ newW s scope.names, s.heap.objs.size ≤ a ∧ a < s'.heap.objs.size) → Q env s') :
    WP B A (newFunctionEnv scope mainGlobals cl binds qual func code around builtins) Q E s := by
  have main : ∀ (o : Obj) (c : Value), o = { cls := c, data := .dict #[] } → WP B A (forIn binds PUnit.unit fun x _ => do storeName (newEnv scope s.heap.objs.size mainGlobals (cellsFrom (s.heap.objs.size + 1) scope.names cl) qual func code around builtins) x.1 x.2; pure (.yield ⟨⟩))
      (fun _ s' => Q (newEnv scope s.heap.objs.size mainGlobals (cellsFrom (s.heap.objs.size + 1) scope.names cl) qual func code around builtins) s') E { s with heap := pushCells (s.heap.push o) scope.names } := by
    intro o cc hod
    generalize henv : newEnv scope s.heap.objs.size mainGlobals (cellsFrom (s.heap.objs.size + 1) scope.names cl) qual func code around builtins = env at hbl hQ ⊢
    have hcells : env.cells = cellsFrom (s.heap.objs.size + 1) scope.names [] ++ cl := by rw [← henv, newEnv_cells, cellsFrom_acc]
    have hscope : env.scope = scope := by rw [← henv, newEnv_scope]
    have hlocals : env.locals = s.heap.objs.size := by rw [← henv, newEnv_locals]
    have hglobals : env.globals = mainGlobals := by rw [← henv, newEnv_globals]
    have hkind : ∀ x, env.kindOf x = look scope.names x := fun x => by unfold Env.kindOf; rw [hscope, look_eq]
    have ok := cellsFrom_ok scope.names (s.heap.push o) (s.heap.objs.size + 1) [] ⟨fun _ _ hm => (nomatch hm), List.Pairwise.nil⟩ (by rw [Heap.size_push]; exact Nat.le_refl _)
    rw [Heap.size_push] at ok
    generalize hH : pushCells (s.heap.push o) scope.names = H at ok ⊢
    have keep : ∀ b o', s.heap.get? b = some o' → H.get? b = some o' := fun b o' e => hH ▸ pushCells_keeps _ _ b o' (Heap.get?_push_of_some _ e)
    have hsz : s.heap.objs.size + 1 ≤ H.objs.size := by rw [← hH, ← Heap.size_push (h := s.heap) (o := o)]; exact pushCells_size _ _
    have k1 : Ke B G s G { s with heap := H } := Ke.of st keep (Nat.le_refl _) (by show s.heap.objs.size ≤ H.objs.size; omega)
    have hW : ∀ a ∈ newW s scope.names, s.heap.objs.size ≤ a ∧ a < H.objs.size := fun a ha => by
      rcases List.mem_cons.mp ha with q | q
      · rw [q]; exact ⟨Nat.le_refl _, hsz⟩
      · obtain ⟨⟨y, c⟩, hy, rfl⟩ := List.mem_map.mp q
        have := ok.empty y c hy
        exact ⟨Nat.le_trans (Nat.le_succ _) this.2, this.1.lt⟩
    have kx : Kx B [] G s { G with O := newW s scope.names ++ G.O } { s with heap := H } :=
      Kx.own st k1 (fun a ha => (List.mem_append.mp ha).elim (fun q => .inr (hW a q)) .inl) fun a ha => List.mem_append_right _ ha
    have st1 := kx.st st (fun _ h => nomatch h)
    have up := kx.up st (fun _ h => nomatch h)
    have fresh : ∀ a, s.heap.objs.size ≤ a → a ∉ B.tb := fun a ha m => Nat.not_lt.mpr ha (st.lt a (st.sub a m))
    have fresh0 : ∀ a, s.heap.objs.size ≤ a → B.h0.get? a = none := fun a ha => by
      cases e : B.h0.get? a with
      | none => rfl
      | some o' =>
        have hn : a ∉ B.tb := fresh a ha
        exact absurd (Heap.lt_size (st.kp a o' hn e)) (Nat.not_lt.mpr ha)
    have hloc : H.get? s.heap.objs.size = some o := hH ▸ pushCells_keeps _ _ _ _ (Heap.get?_push_size _ (by rw [hod]; rfl))
    have se1 : Sees B { G with O := newW s scope.names ++ G.O } { s with heap := H } env Γ := by
      refine ⟨st1, by rw [hscope, hk], hglobals, hbl, by rw [hlocals]; exact fresh _ (Nat.le_refl _), ?_, fun x hx => ?_⟩
      · refine ⟨fun _ => none, ?_, fun x d hx hl => ?_⟩
        · rw [hlocals, ← hH, hod]; exact (Heap.Ns.new s.heap cc).keeps (pushCells_keeps _ _)
        · rw [hkind, look_of_mem ho (hc.only x d hx)] at hl; cases hl
      · rw [hkind] at hx
        rcases kc_cel hx with q | q
        · obtain ⟨c, hcl⟩ := cellsFrom_some (n := s.heap.objs.size + 1) (mem_of_look q)
          have hm := ok.empty x c (mem_of_lookup hcl)
          refine ⟨c, by rw [hcells, List.lookup_append, hcl]; rfl, fresh c (Nat.le_trans (Nat.le_succ _) hm.2), hm.1.lt, fun d hd => ?_⟩
          rw [look_of_mem ho (hc.only x d hd)] at q; cases q
        · obtain ⟨c, hcl, hd⟩ := hc.has x (mem_of_look q)
          have hnone : (cellsFrom (s.heap.objs.size + 1) scope.names []).lookup x = none := by
            cases e : (cellsFrom (s.heap.objs.size + 1) scope.names []).lookup x with
            | none => rfl
            | some c' => have := look_of_mem ho (cellsFrom_mem (mem_of_lookup e)); rw [this] at q; cases q
          refine ⟨c, by rw [hcells, List.lookup_append, hnone]; exact hcl, hc.nt x c hcl, Nat.lt_of_lt_of_le (hc.old x c (mem_of_lookup hcl)) (by show s.heap.objs.size ≤ H.objs.size; omega), fun d hxd => ?_⟩
          obtain ⟨v, hv, rv⟩ := hd d hxd
          exact ⟨v, hv.keeps keep, rv.up up⟩
    have ow1 : Own B { G with O := newW s scope.names ++ G.O } { s with heap := H } scope.names env (newW s scope.names) := by
      refine ⟨fun a ha => List.mem_append_left _ ha, fun a ha => fresh0 a (hW a ha).1, by rw [hlocals]; exact List.mem_cons_self, fun x hx => by rw [hkind, hx], fun x hx => ⟨by rw [hkind, hx], ?_⟩⟩
      obtain ⟨c, hcl⟩ := cellsFrom_some (n := s.heap.objs.size + 1) (mem_of_look hx)
      have hm := ok.empty x c (mem_of_lookup hcl)
      refine ⟨c, none, by rw [hcells, List.lookup_append, hcl]; rfl, hm.1, List.mem_cons_of_mem _ (lookup_mem hcl), fun y hy => ?_⟩
      rw [hcells, List.lookup_append] at hy
      cases e : (cellsFrom (s.heap.objs.size + 1) scope.names []).lookup y with
      | none =>
        rw [e] at hy
        have : cl.lookup y = some c := by simpa using hy
        have h1 := hc.old y c (mem_of_lookup this)
        have h2 := hm.2
        exact absurd h1 (Nat.not_lt.mpr (Nat.le_trans (Nat.le_succ _) h2))
      | some c' =>
        rw [e] at hy
        have : c' = c := by simpa using hy
        subst this
        exact name_of_addr ok.apart (mem_of_lookup e) (mem_of_lookup hcl)
    refine stores_ok _ (fun _ _ _ => rfl) hb se1 ow1 (r.up up) fun s' k' se' ow' => ?_
    refine hQ env _ s' rfl (kx.trans (Kx.of_kw st1 k') fun a ha => .inr (hW a ha).1) rfl se' ow' fun a ha => ⟨(hW a ha).1, Nat.lt_of_lt_of_le (hW a ha).2 k'.sz⟩
  cases around with
  | none =>
    simp only [newFunctionEnv, Option.isSome_none, Bool.false_eq_true, if_false]
    refine WP.bind ⟨@wpAny_alloc _ _ _ _ _ _ ?_⟩
    refine WP.bind ⟨@wpAny_layCells _ _ _ _ (fun name kind cells => by cases hkc : kind == NameKind.cell <;> simp [hkc]) _ _ _ _ ?_⟩
    rw [show ({ s with heap := s.heap.push { cls := .type "frame", data := .dict #[] } } : Shared).heap.objs.size = s.heap.objs.size + 1 from Heap.size_push ..]
    exact WP.bind ((main { cls := .type "frame", data := .dict #[] } _ rfl).post fun _ _ q => WP.pure q)
  | some outer =>
    simp only [newFunctionEnv, Option.isSome_some, if_true]
    refine WP.bind ⟨@wpAny_alloc _ _ _ _ _ _ ?_⟩
    refine WP.bind ⟨@wpAny_layCells _ _ _ _ (fun name kind cells => by cases hkc : kind == NameKind.cell <;> simp [hkc]) _ _ _ _ ?_⟩
    rw [show ({ s with heap := s.heap.push { cls := .type "dict", data := .dict #[] } } : Shared).heap.objs.size = s.heap.objs.size + 1 from Heap.size_push ..]
    exact WP.bind ((main { cls := .type "dict", data := .dict #[] } _ rfl).post fun _ _ q => WP.pure q)
end
end Mine

end
section
open PySem PySem.W PyProof.Rows
set_option Elab.async false
namespace Mine

structure Nv where
  N : Str → List D → Option D
  K : Str → Option D
  M : Str → D → List D → Option D
  A : Str → D → Option D
  MK : Str → D → List D → Str → D → Option D

noncomputable abbrev Ev := Kd → Gm → Expr → Option D

noncomputable def constD : Const → Option D
  | .none => some .none
  | .bool b => some (.bool b)
  | .int i => some (.int i)
  | .float x => some (.flt x)
  | .str s => some (.str s)
  | _ => none
noncomputable def nameD (X : Nv) (sc : Kd) (Γ : Gm) (x : Str) : Option D := match strEq x "__debug__" with
  | true => some (.bool true)
  | false => match kc (look sc x) with
    | .loc => look Γ x
    | .cel => match strEq x "__classdict__" with
      | true => none
      | false => look Γ x
    | .glo => match X.K x with
      | some d => some d
      | none => match strEq x "str" with
        | true => some (.typ "str")
        | false => match strEq x "list" with
          | true => some (.typ "list")
          | false => none
    | .no => none
noncomputable def isStar (e : Expr) : Bool := Nat.beq e.ctorIdx 22
noncomputable def each (ev : Expr → Option D) : List Expr → Option (List D)
  | [] => some []
  | e :: r => match isStar e with
    | true => none
    | false => match ev e with
      | none => none
      | some d => match each ev r with
        | none => none
        | some ds => some (d :: ds)
noncomputable def solo {α : Type} : List α → Option α
  | [x] => some x
  | _ => none
theorem solo_eq {α : Type} {l : List α} {x : α} (h : solo l = some x) : l = [x] := by
  cases l with
  | nil => exact nsd h
  | cons y r => cases r with
    | nil => exact congrArg (fun z => [z]) (Option.some.inj h)
    | cons => exact nsd h
noncomputable def duo {α : Type} : List α → Option (α × α)
  | x :: r => (solo r).map fun y => (x, y)
  | [] => none
theorem duo_eq {α : Type} {l : List α} {p : α × α} (h : duo l = some p) : l = [p.1, p.2] := by
  cases l with
  | nil => exact nsd h
  | cons x r =>
    obtain ⟨y, h1, h2⟩ := map_inv h
    rw [solo_eq h1, ← Option.some.inj h2]
noncomputable def bopK (op : BoolOp) (t : Bool) : Bool := match op with
  | .And => t
  | .Or => !t
noncomputable def boolD (ev : Expr → Option D) (op : BoolOp) (es : List Expr) : Option D := (duo es).bind fun p => (ev p.1).bind fun d => (truth d).bind fun t => cond (bopK op t) (ev p.2) (some d)
theorem boolD_inv {ev : Expr → Option D} {op : BoolOp} {es : List Expr} {d : D} (h : boolD ev op es = some d) : ∃ e1 e2 d1 t, es = [e1, e2] ∧ ev e1 = some d1 ∧ truth d1 = some t ∧ cond (bopK op t) (ev e2) (some d1) = some d :=
  let ⟨p, h1, h2⟩ := bnd h
  let ⟨d1, h3, h4⟩ := bnd h2
  let ⟨t, h5, h6⟩ := bnd h4
  ⟨p.1, p.2, d1, t, duo_eq h1, h3, h5, h6⟩
noncomputable def chainD (ev : Expr → Option D) (a : D) (ops : List CmpOp) (rs : List Expr) : Option D := (solo ops).bind fun op => (solo rs).bind fun r => (ev r).bind fun b => (cmpD op a b).map D.bool
theorem chainD_inv {ev : Expr → Option D} {ops : List CmpOp} {rs : List Expr} {a d : D} (h : chainD ev a ops rs = some d) : ∃ op r b c, ops = [op] ∧ rs = [r] ∧ ev r = some b ∧ cmpD op a b = some c ∧ some (D.bool c) = some d :=
  let ⟨op, h1, h2⟩ := bnd h
  let ⟨r, h3, h4⟩ := bnd h2
  let ⟨b, h5, h6⟩ := bnd h4
  let ⟨c, h7, h8⟩ := map_inv h6
  ⟨op, r, b, c, solo_eq h1, solo_eq h3, h5, h7, h8⟩
noncomputable def baseOk : Expr → Bool
  | .Call (.Name _ _) [] [] _ => false
  | _ => true
noncomputable def callF (X : Nv) (ev : Expr → Option D) (sc : Kd) (x : Str) (args : List Expr) : Option D := tst (!strEq x "__debug__" && decide (kc (look sc x) = .glo)) ((each ev args).bind fun ds => orE (X.N x ds) some ((look prTab x).bind fun p => primD p.1 ds))
noncomputable def callA1 (X : Nv) (ev : Expr → Option D) (o : Expr) (m : Str) (args : List Expr) : Option D := (ev o).bind fun d => (each ev args).bind fun ds => orE (look mtTab m) (fun t => methD t d ds) (X.M m d ds)
noncomputable def callD (X : Nv) (ev : Expr → Option D) (sc : Kd) (f : Expr) (args : List Expr) (pos : Pos) : Option D := orE (nameOf f) (fun x => callF X ev sc x args) ((attO f).bind fun a => tst ((a.2.2.endLine == pos.line) && (baseOk a.1 && Nat.ble args.length 20)) (callA1 X ev a.1 a.2.1 args))
noncomputable def kwOne : List Keyword → Option (Str × Expr)
  | [] => none
  | k :: ks => match ks with
    | [] => match k.arg with
      | some n => some (n, k.value)
      | none => none
    | _ :: _ => none
theorem kwOne_eq {ks : List Keyword} {p : Str × Expr} (h : kwOne ks = some p) : ∃ kp, ks = [⟨some p.1, p.2, kp⟩] := by
  cases ks with
  | nil => exact nsd h
  | cons k ks => cases ks with
    | cons _ _ => exact nsd h
    | nil => cases k with
      | mk a v q => cases a with
        | none => exact nsd h
        | some n => exact Option.some.inj h ▸ ⟨q, rfl⟩
noncomputable def callK1 (X : Nv) (ev : Expr → Option D) (o : Expr) (m : Str) (args : List Expr) (kw : Str × Expr) : Option D := (ev o).bind fun d => (each ev args).bind fun ds => (ev kw.2).bind fun kd => X.MK m d ds kw.1 kd
noncomputable def callK (X : Nv) (ev : Expr → Option D) (f : Expr) (args : List Expr) (kws : List Keyword) (pos : Pos) : Option D := (attO f).bind fun a => tst (a.2.2.endLine == pos.line && (baseOk a.1 && (Nat.ble args.length 20 && !args.isEmpty))) ((kwOne kws).bind (callK1 X ev a.1 a.2.1 args))
noncomputable def isName (e : Expr) : Bool := Nat.beq e.ctorIdx 23
noncomputable def partE (ev : Expr → Option D) : Option Expr → Option (Option Int)
  | none => some none
  | some e => match ev e with
    | none => none
    | some d => partD d
noncomputable def isSlice (e : Expr) : Bool := Nat.beq e.ctorIdx 26
noncomputable def slcD (ev : Expr → Option D) (a : D) (lo hi st : Option Expr) : Option D := (partE ev lo).bind fun l => (partE ev hi).bind fun h => (partE ev st).bind fun p => sliceD a l h p
theorem slcOf_none {e : Expr} (h : isSlice e = false) : slcOf e = none := by
  cases hq : slcOf e with
  | none => rfl
  | some q =>
    obtain ⟨p, rfl⟩ := slcOf_eq hq
    exact ntf h
noncomputable def subD (ev : Expr → Option D) (v i : Expr) : Option D := (ev v).bind fun a => orE (slcOf i) (fun q => slcD ev a q.1 q.2.1 q.2.2) (tst (!isSlice i) ((ev i).bind fun b => itemD a b))

noncomputable def isSet : Expr → Bool
  | .Set _ _ _ => true
  | _ => false
noncomputable def freeG (Γ : Gm) (names : Kd) : Gm := names.filterMap fun p => tst (decide (p.2 = .free)) ((look Γ p.1).map fun d => (p.1, d))
noncomputable def nkOk (c : Kc) (k : NameKind) : Bool := match k with
  | .free => decide (c = .cel)
  | .globalExplicit => false
  | _ => true
noncomputable def celAll (sc : Kd) (names : Kd) : Bool := names.all fun p => nkOk (kc (look sc p.1)) p.2
noncomputable def newE (Γ : Gm) (e : Expr) : Bool := (nameOf e).elim false fun x => (look Γ x).isNone
noncomputable def newT (Γ : Gm) : Expr → Bool
  | .Name x _ => (look Γ x).isNone
  | .Tuple es _ _ => es.all (newE Γ)
  | _ => false
noncomputable def testsD (ev : Expr → Option D) : List Expr → Option Bool
  | [] => some true
  | e :: r => (ev e).bind fun d => (truth d).bind fun b => cond b (testsD ev r) (some false)
noncomputable def compL (bind : D → Option Gm) (tests : Gm → Option Bool) (inner : Gm → Option (List D)) : List D → Option (List D)
  | [] => some []
  | x :: xs => (bind x).bind fun Γ => (tests Γ).bind fun b => cond b ((inner Γ).bind fun o => (compL bind tests inner xs).map fun r => o ++ r) (compL bind tests inner xs)
noncomputable def bindN (sc : Kd) (Γ : Gm) (t : Expr) (x : D) : Option Gm := tst (newT Γ t) (bindT sc t x Γ)
noncomputable def compI (rec : Ev) (sc : Kd) (elt : Expr) : List Comprehension → Gm → Option (List D)
  | [], Γ => (rec sc Γ elt).map fun d => [d]
  | g :: gs, Γ => tst (!isSet g.iter) ((rec sc Γ g.iter).bind fun d => (iterD d).bind fun xs => compL (bindN sc Γ g.target) (fun Γ' => testsD (rec sc Γ') g.ifs) (compI rec sc elt gs) xs)
noncomputable def scopeOk (sc : Kd) (scope : Scope) : Bool := decide (scope.kind = .function) && (once scope.names && celAll sc scope.names)
noncomputable def allSync (gs : List Comprehension) : Bool := gs.all fun g => decide (g.is_async = 0)
noncomputable def compG (rec : Ev) (sc : Kd) (Γ : Gm) (elt : Expr) (g : Comprehension) (gs : List Comprehension) (scope : Scope) : Option D := tst (allSync (g :: gs) && (!isSet g.iter && scopeOk sc scope)) ((rec sc Γ g.iter).bind fun d => (iterD d).bind fun xs =>
  (compL (bindN scope.names (freeG Γ scope.names) g.target) (fun Γ' => testsD (rec scope.names Γ') g.ifs) (compI rec scope.names elt gs) xs).bind fun out => tst (Nat.ble out.length 1000) (some (.lst out)))
noncomputable def compD (rec : Ev) (sc : Kd) (Γ : Gm) (elt : Expr) (gens : List Comprehension) (scope : Scope) : Option D := match gens with
  | [] => none
  | g :: gs => compG rec sc Γ elt g gs scope

noncomputable def evE1 (X : Nv) (rec : Ev) : Ev := fun sc Γ e => match e with
  | .Constant c _ _ => constD c
  | .Name x _ => nameD X sc Γ x
  | .BinOp l op r _ => match rec sc Γ l with
    | none => none
    | some a => match rec sc Γ r with
      | none => none
      | some b => binop op a b
  | .UnaryOp op x _ => match rec sc Γ x with
    | none => none
    | some a => unop op a
  | .BoolOp op es _ => boolD (rec sc Γ) op es
  | .IfExp t b o _ => match rec sc Γ t with
    | none => none
    | some c => match truth c with
      | none => none
      | some true => rec sc Γ b
      | some false => rec sc Γ o
  | .Compare l ops rs _ => match lastMarks ops rs with
    | true => none
    | false => match rec sc Γ l with
      | none => none
      | some a => chainD (rec sc Γ) a ops rs
  | .Call f args kws pos => match kws with
    | [] => callD X (rec sc Γ) sc f args pos
    | _ => callK X (rec sc Γ) f args kws pos
  | .Attribute o m _ => match isName o with
    | false => none
    | true => match rec sc Γ o with
      | none => none
      | some d => X.A m d
  | .Subscript v i _ => subD (rec sc Γ) v i
  | .List es _ => match each (rec sc Γ) es with
    | none => none
    | some ds => match Nat.ble ds.length 1000 with
      | true => some (.lst ds)
      | false => none
  | .Tuple es _ _ => match each (rec sc Γ) es with
    | none => none
    | some ds => match Nat.ble ds.length 1000 with
      | true => some (.tup ds)
      | false => none
  | .ListComp elt gens scope _ => compD rec sc Γ elt gens scope
  | _ => none

noncomputable def evE (X : Nv) (n : Nat) : Ev := Nat.rec (fun _ _ _ => none) (fun _ rec => evE1 X rec) n
theorem evE_succ (X : Nv) (n : Nat) : evE X (n + 1) = evE1 X (evE X n) := rfl

noncomputable def OkE (B : Bs) (L : Nat) (ev : Ev) : Prop := ∀ sc Γ e d, ev sc Γ e = some d → ∀ A G s env E Q, Room L A → Kn sc env → Sees B G s env Γ → Post B G s d Q → WP B A (eval e env) Q E s
noncomputable def OkT (B : Bs) (L : Nat) (ev : Ev) : Prop := ∀ sc Γ e d b, ev sc Γ e = some d → truth d = some b → ∀ A G s env E Q, Room L A → Kn sc env → Sees B G s env Γ → (∀ G' s', Ke B G s G' s' → Q b s') → WP B A (isTrue e env (eval e env)) Q E s

noncomputable def KeepOk (B : Bs) (f : Value) : Prop := ∀ A G s E Q, St B G s → (∀ k, Q k s) → WP B A (keeperOf f) Q E s
noncomputable def OkCall (B : Bs) (L : Nat) (f : Value) (ds : List D) (d : D) : Prop := ∀ A G s vs E Q, Room L A → St B G s → RdL G s.heap vs ds → Post B G s d Q → WP B A (call f vs) Q E s
inductive NvN (B : Bs) (L : Nat) (x : Str) (ds : List D) (d : D) : Prop
  | mk (v : Value) (hv : B.mg x = some v) (hk : KeepOk B v) (ho : OkCall B L v ds d) : NvN B L x ds d
inductive NvM (B : Bs) (L : Nat) (x : Str) (d : D) (ds : List D) (r : D) : Prop
  | mk (f : Value) (hg : ∀ A G s E Q o pl, St B G s → Rd G s.heap o d → Q (f, [o]) s → WP B A (getMethod o x pl) Q E s) (hk : KeepOk B f) (ho : OkCall B L f (d :: ds) r) : NvM B L x d ds r
inductive NvKw (B : Bs) (L : Nat) (m : Str) (d : D) (ds : List D) (kn : Str) (kd r : D) : Prop
  | mk (fa : Addr) (o : Obj) (fd : FuncData) (hg : ∀ A G s E Q o pl, St B G s → Rd G s.heap o d → Q (.ref fa, [o]) s → WP B A (getMethod o m pl) Q E s) (ho : B.h0.get? fa = some o) (ht : fa ∉ B.tb) (hd : o.data = .func fd)
    (hc : ∀ A G s vs kv E Q, Room L A → St B G s → RdL G s.heap vs (d :: ds) → Rd G s.heap kv kd → Post B G s r Q → WP B A (call (.ref fa) vs [(kn, kv)]) Q E s) : NvKw B L m d ds kn kd r
structure NvOk (B : Bs) (L : Nat) (X : Nv) : Prop where
  n : ∀ x ds d, X.N x ds = some d → NvN B L x ds d
  k : ∀ x d, X.K x = some d → ∃ v, B.mg x = some v ∧ ∀ G s, St B G s → Rd G s.heap v d
  m : ∀ x d ds r, X.M x d ds = some r → NvM B L x d ds r
  p : ∀ x p, look prTab x = some p → B.mg x = none ∧ B.mb x = some p.1.val
  t : (B.mg "str" = none ∧ B.mb "str" = some (.type "str")) ∧ (B.mg "list" = none ∧ B.mb "list" = some (.type "list"))
  a : ∀ m d r, X.A m d = some r → ∀ A G s E Q o ex, St B G s → Rd G s.heap o d → Post B G s r Q → WP B A (getAttr o m ex) Q E s
  kw : ∀ m d ds kn kd r, X.MK m d ds kn kd = some r → NvKw B L m d ds kn kd r

section
variable {B : Bs} {A : Around} {G : Gh} {s : Shared} {Γ : Gm} {sc : Kd} {env : Env} {E : Value → Shared → Prop} {L : Nat} {X : Nv} {rec : Ev}

theorem star_plain {e : Expr} {es : List Expr} {env : Env} (h : isStar e = false) : starEach (e :: es) env = (false, eval e env) :: starEach es env := by cases e <;> first | exact ntf h | rfl
theorem base_plain {o : Expr} {m : Str} {env : Env} {w : Sem Value} (h : baseOk o = true) : attributeBase o m env w = w := by
  cases o <;> try rfl
  rename_i f as ks p
  cases f <;> try rfl
  cases as with
  | cons _ _ => rfl
  | nil => cases ks with
    | cons _ _ => rfl
    | nil => exact nft h
theorem sub_plain {i : Expr} (h : isSlice i = false) (o v : Value) : subscripted i false o v = operate [o, v] (getItem o v) := by cases i <;> first | exact ntf h | rfl
theorem each_inv {ev : Expr → Option D} {e : Expr} {es : List Expr} {ds : List D} (h : each ev (e :: es) = some ds) : ∃ d ds', isStar e = false ∧ ev e = some d ∧ each ev es = some ds' ∧ d :: ds' = ds := by
  unfold each at h
  split at h
  · exact nsd h
  · split at h
    · exact nsd h
    · split at h
      · exact nsd h
      · exact ⟨_, _, ‹_›, ‹_›, ‹_›, Option.some.inj h⟩
theorem each_ok (ok : OkE B L rec) (rm : Room L A) (kn : Kn sc env) {pos : Pos} : ∀ {es : List Expr} {ds : List D} {G : Gh} {s : Shared} {Q : List Value → Shared → Prop}, each (rec sc Γ) es = some ds → Sees B G s env Γ →
    (∀ vs G' s', Ke B G s G' s' → RdL G' s'.heap vs ds → Q vs s') → WP B A (spliced (backTo pos (starEach es env))) Q E s
  | [], ds, G, s, Q, h, se, hQ => WP.pure (hQ [] G s (.refl se.st) (Option.some.inj h ▸ .nil))
  | e :: es, ds, G, s, Q, h, se, hQ => by
    obtain ⟨d, ds', hst, hd, hds, rfl⟩ := each_inv h
    rw [star_plain hst]
    refine ⟨@Calls.spliced_cons _ _ _ _ _ _ _ (ok sc Γ e d hd A G s env E (fun v s₁ => wpAny B.M A (spliced (backTo pos (starEach es env))) (fun vs s₂ => Q (v :: vs) s₂) E s₁) rm kn se fun v G1 s1 k1 r1 => ?_).w⟩
    exact (each_ok ok rm kn hds (se.ke k1) fun vs G2 s2 k2 r2 => hQ _ G2 s2 (k1.trans k2) (.cons (r1.ke (se.st.ke k1) k2) r2)).w

theorem truthy_ok {v : Value} {d : D} {b : Bool} {Q : Bool → Shared → Prop} (st : St B G s) (r : Rd G s.heap v d) (h : truth d = some b) (hQ : ∀ G' s', Ke B G s G' s' → Q b s') : WP B A (truthy v) Q E s :=
  truth_ok st r h fun s' k => hQ G s' k

theorem const_ok {c : Const} {d : D} {k : Nat} {pos : Pos} {Q : Value → Shared → Prop} (st : St B G s) (h : constD c = some d) (hQ : Post B G s d Q) : WP B A (eval (.Constant c k pos) env) Q E s := by
  cases c <;> first | exact nsd h | (unfold constD at h; dsimp only at h; replace hQ := hQ.of h)
  · exact ⟨@PyProof.Rows.Constant_none _ _ _ _ _ _ _ _ (hQ.val st .none)⟩
  · exact ⟨@PyProof.Rows.Constant_bool _ _ _ _ _ _ _ _ _ (hQ.val st (.bool _))⟩
  · exact ⟨fun _ _ _ => hQ.tok1 st (.int _ _)⟩
  · exact ⟨fun _ _ _ => hQ.flt st⟩
  · exact ⟨fun _ _ _ => hQ.tok1 st (.str _ _)⟩

theorem not_eq {a b : Str} (h : strEq a b = false) : (a == b) = false := by rw [← strEq_eq]; exact h

theorem name_ok (nv : NvOk B L X) (kn : Kn sc env) (se : Sees B G s env Γ) {x : Str} {pos : Pos} {d : D} {Q : Value → Shared → Prop} (h : nameD X sc Γ x = some d) (hQ : Post B G s d Q) : WP B A (eval (.Name x pos) env) Q E s := by
  unfold nameD at h
  split at h
  · rename_i hdb
    cases h
    rw [strEq_iff.mp hdb]
    show WP B A (do standAt pos; debugConstant) Q E s
    refine WP.bind (WP.standAt ?_)
    unfold debugConstant
    exact WP.bind (WP.rule (WP.pure (hQ.val se.st (.bool _))))
  rename_i hdb
  have hdb := not_eq hdb
  split at h
  · rename_i hk
    rw [kn x] at hk
    exact ⟨@wpAny_Name _ _ _ _ _ _ _ _ (load_loc se (kc_loc hk) h hQ).w hdb⟩
  · rename_i hk
    rw [kn x] at hk
    split at h
    · first | exact nsd h | exact nft h | exact ntf h | cases h
    rename_i hcd
    exact ⟨@wpAny_Name _ _ _ _ _ _ _ _ (load_cel se hk h (not_eq hcd) hQ).w hdb⟩
  · rename_i hk
    rw [kn x] at hk
    split at h
    · rename_i d' hd
      cases h
      obtain ⟨v, hv, hr⟩ := nv.k x d hd
      exact ⟨@wpAny_Name _ _ _ _ _ _ _ _ (loadName_global se.kind (kc_glo hk) ⟨@Calls.loadGlobal_global _ _ _ _ _ _ _ _ _ (by rw [se.glob]; exact se.st.g) hv (hQ.val se.st (hr G s se.st))⟩).w hdb⟩
    · split at h
      · rename_i hx
        cases h
        have hx := strEq_iff.mp hx
        subst hx
        exact ⟨@wpAny_Name _ _ _ _ _ _ _ _ (loadName_global se.kind (kc_glo hk) ⟨@Calls.loadGlobal_builtin _ _ _ _ _ _ _ _ _ _ (by rw [se.glob]; exact se.st.g) nv.t.1.1 (by rw [se.blt]; exact se.st.b) nv.t.1.2 (hQ.val se.st (.typ _))⟩).w hdb⟩
      · split at h
        · rename_i hx
          cases h
          have hx := strEq_iff.mp hx
          subst hx
          exact ⟨@wpAny_Name _ _ _ _ _ _ _ _ (loadName_global se.kind (kc_glo hk) ⟨@Calls.loadGlobal_builtin _ _ _ _ _ _ _ _ _ _ (by rw [se.glob]; exact se.st.g) nv.t.2.1 (by rw [se.blt]; exact se.st.b) nv.t.2.2 (hQ.val se.st (.typ _))⟩).w hdb⟩
        · first | exact nsd h | exact nft h | exact ntf h | cases h
  · first | exact nsd h | exact nft h | exact ntf h | cases h

theorem callee_ok (kn : Kn sc env) (se : Sees B G s env Γ) {x : Str} {pos : Pos} {v : Value} {Q : Value → Shared → Prop} (hk : kc (look sc x) = .glo) (hdb : strEq x "__debug__" = false)
    (hv : B.mg x = some v ∨ (B.mg x = none ∧ B.mb x = some v)) (hQ : Q v s) : WP B A (eval (.Name x pos) env) Q E s := by
  rw [kn x] at hk
  refine ⟨@wpAny_Name _ _ _ _ _ _ _ _ (loadName_global se.kind (kc_glo hk) ?_).w (not_eq hdb)⟩
  rcases hv with hv | ⟨h1, h2⟩
  · exact ⟨@Calls.loadGlobal_global _ _ _ _ _ _ _ _ _ (by rw [se.glob]; exact se.st.g) hv hQ⟩
  · exact ⟨@Calls.loadGlobal_builtin _ _ _ _ _ _ _ _ _ _ (by rw [se.glob]; exact se.st.g) h1 (by rw [se.blt]; exact se.st.b) h2 hQ⟩

theorem KeepOk.builtin (id : String) : KeepOk B (.builtin id) := fun _ _ _ _ _ _ h => WP.pure (h _)
theorem KeepOk.type (T : String) : KeepOk B (.type T) := fun _ _ _ _ _ _ h => WP.pure (h _)
theorem KeepOk.pr (p : Pr) : KeepOk B p.val := by cases p <;> first | exact .builtin _ | exact .type _
theorem KeepOk.func {a : Addr} {o : Obj} {fd : FuncData} (ho : B.h0.get? a = some o) (ha : a ∉ B.tb) (hd : o.data = .func fd) : KeepOk B (.ref a) := fun A G s E Q st h => by
  unfold keeperOf
  refine WP.bind ⟨@wpAny_load _ _ _ _ _ _ _ (st.kp a o ha ho) ?_⟩
  rw [hd]
  exact WP.pure (h _)

theorem star_any : ∀ {es : List Expr} {ds : List D} {pos : Pos}, each (rec sc Γ) es = some ds → (backTo pos (starEach es env)).any (·.1) = false
  | [], _, _, _ => rfl
  | e :: es, ds, pos, h => by
    obtain ⟨d, ds', hst, hd, hds, rfl⟩ := each_inv h
    rw [star_plain hst]
    show (false || (backTo pos (starEach es env)).any (·.1)) = false
    rw [star_any hds]; rfl
theorem form_ok {as : List Expr} {ds : List D} {pos : Pos} {n : Nat} {ks : List (Option Str × Sem Value)} (h : each (rec sc Γ) as = some ds) (hn : n ≤ 21) (hk : ks = [] ∨ ∃ k m, ks = [(some k, m)]) : methodCallForm n (backTo pos (starEach as env)) ks = true := by
  unfold methodCallForm
  have h1 : (backTo pos (starEach as env)).all (fun x => !x.1) = true := by
    rw [List.all_eq_not_any_not]; simpa using star_any (env := env) (pos := pos) h
  rw [h1]
  rcases hk with rfl | ⟨k, m, rfl⟩
  · simp; omega
  · simp; omega
theorem mpos_ok {o : Expr} {env : Env} {apos pos : Pos} {b : Bool} (h : (apos.endLine == pos.line) = true) : methodCallPos b o env apos pos = pure pos := by unfold methodCallPos; simp [h]

theorem evalArgs_of {f : Value} {args : List (Bool × Sem Value)} {Q : Args → Shared → Prop} (hp : args.any (·.1) = false) (h : WP B A (spliced args) (fun vs s' => Q ⟨vs, []⟩ s') E s) : WP B A (evalArgs f true args []) Q E s := by
  cases args with
  | nil =>
    refine ⟨fun Γ p hΓ => ?_⟩
    exact @PySem.evalArgs_none B.M A E s f Q (h.w Γ p hΓ) Γ p hΓ
  | cons x r =>
    obtain ⟨b, t⟩ := x
    cases b with
    | true => simp at hp
    | false => exact ⟨@Calls.evalArgs_plain _ _ _ _ _ _ _ _ h.w⟩
end
end Mine

end
section
open PySem PySem.W PyProof.Rows
set_option Elab.async false
namespace Mine

section
variable {B : Bs} {A : Around} {G : Gh} {s : Shared} {Γ : Gm} {sc : Kd} {env : Env} {E : Value → Shared → Prop} {L : Nat} {X : Nv} {rec : Ev}

theorem callWith_ok {f : Value} {first : List Value} {args : List (Bool × Sem Value)} {pos : Pos} {Q : Value → Shared → Prop} (kf : KeepOk B f) (hp : args.any (·.1) = false)
    (h : WP B A (spliced args) (fun vs s' => (∃ G', St B G' s') ∧ WP B A (call f (first ++ vs)) Q E s') E s) : WP B A (callWith pos f first args []) Q E s := by
  unfold callWith
  refine WP.bind (WP.holding (evalArgs_of hp (h.post fun vs s1 h1 => WP.bind (WP.standAt ?_))))
  obtain ⟨⟨G1, st1⟩, h1⟩ := h1
  have tail : ∀ {t : Sem Value}, WP B A t Q E s1 → WP B A (t >>= fun r => holding [r] point >>= fun _ => pure r) Q E s1 :=
    fun ht => WP.bind (ht.post fun r s2 hr => WP.bind (WP.holding (WP.point (WP.pure hr))))
  rw [hp]
  simp only [List.any_nil, Bool.or_false]
  refine WP.bind (kf A G1 s1 E _ st1 fun k => ?_)
  cases k
  · dsimp only
    split
    · exact tail h1
    · exact tail (by unfold callMarked; exact WP.keep h1)
  · dsimp only
    split
    · exact tail h1
    · exact tail (by unfold callMarked; exact WP.keep h1)
  · exact tail h1
  · exact tail ⟨@wpAny_operating _ _ _ _ _ _ _ h1.w⟩

theorem callD_ok (nv : NvOk B L X) (ok : OkE B L rec) (rm : Room L A) (kn : Kn sc env) (se : Sees B G s env Γ) {f : Expr} {args : List Expr} {pos : Pos} {d : D} {Q : Value → Shared → Prop}
    (h : callD X (rec sc Γ) sc f args pos = some d) (hQ : Post B G s d Q) : WP B A (eval (.Call f args [] pos) env) Q E s := by
  refine orE_inv h (fun x hx h => ?_) fun h => ?_
  · obtain ⟨px, rfl⟩ := nameOf_some hx
    · obtain ⟨hc, h1⟩ := tst_inv h
      obtain ⟨hc1, hc2⟩ := Bool.and_eq_true_iff.mp hc
      have hdb := bnot hc1
      have hk := of_decide_eq_true hc2
      obtain ⟨ds, hds, h2⟩ := bnd h1
      have main : ∀ v, (B.mg x = some v ∨ (B.mg x = none ∧ B.mb x = some v)) → KeepOk B v → OkCall B L v ds d → WP B A (eval (.Call (.Name x px) args [] pos) env) Q E s := fun v hv kv ov => by
        show WP B A (do callWith pos (← eval (.Name x px) env) [] (backTo pos (starEach args env)) []) Q E s
        refine WP.bind (callee_ok kn se hk hdb hv ?_)
        refine callWith_ok kv (star_any hds) (each_ok ok rm kn hds se fun vs G1 s1 k1 r1 => ⟨⟨G1, se.st.ke k1⟩, ?_⟩)
        exact ov A G1 s1 vs E Q rm (se.st.ke k1) r1 (hQ.after k1)
      refine orE_inv h2 (fun d' hn h3 => ?_) fun h3 => ?_
      · obtain ⟨v, hv, kv, ov⟩ := nv.n x ds d (hn.trans h3)
        exact main v (.inl hv) kv ov
      · obtain ⟨p, hp, h4⟩ := bnd h3
        obtain ⟨h1, h2⟩ := nv.p x p hp
        exact main _ (.inr ⟨h1, h2⟩) (.pr p.1) fun A' G' s' vs E' Q' rm' st' r' hQ' => primD_ok rm' st' r' h4 hQ'
  · obtain ⟨⟨o, m, apos⟩, hf, h⟩ := bnd h
    obtain rfl := attO_eq hf
    obtain ⟨hc, h1⟩ := tst_inv h
    obtain ⟨hline, hc1⟩ := Bool.and_eq_true_iff.mp hc
    obtain ⟨hbase, hlen⟩ := Bool.and_eq_true_iff.mp hc1
    obtain ⟨a, ha, h2⟩ := bnd h1
    obtain ⟨ds, hds, h3⟩ := bnd h2
    have hb : attributeBase o m env (eval o env) = eval o env := base_plain hbase
    have hlen' : args.length ≤ 20 := Nat.le_of_ble_eq_true hlen
    have hany := star_any (env := env) (pos := pos) hds
    have hform : methodCallForm (args.length + ([] : List Keyword).length) (backTo pos (starEach args env)) (backToKw pos (keywordEach [] env)) = true := form_ok hds (Nat.le_succ_of_le hlen') (.inl rfl)
    have main : ∀ f, (∀ A G s E Q ov pl, St B G s → Rd G s.heap ov a → Q (f, [ov]) s → WP B A (getMethod ov m pl) Q E s) → KeepOk B f → OkCall B L f (a :: ds) d → WP B A (eval (.Call (.Attribute o m apos) args [] pos) env) Q E s := fun f gm kf of => by
      rw [arm_eval_Call, hb]
      refine WP.bind (ok sc Γ o a ha A G s env E _ rm kn se fun ov G1 s1 k1 r1 => ?_)
      refine WP.bind (WP.standAt ?_)
      unfold methodCall calleeOf
      rw [hform, if_pos rfl]
      refine WP.bind (WP.holding (gm A G1 s1 E _ ov _ (se.st.ke k1) r1 ?_))
      rw [mpos_ok hline]
      refine WP.bind (WP.pure ?_)
      refine callWith_ok kf hany (each_ok ok rm kn hds (se.ke k1) fun vs G2 s2 k2 r2 => ⟨⟨G2, (se.st.ke k1).ke k2⟩, ?_⟩)
      exact of A G2 s2 (ov :: vs) E Q rm ((se.st.ke k1).ke k2) (.cons (r1.ke (se.st.ke k1) k2) r2) (hQ.after (k1.trans k2))
    refine orE_inv h3 (fun t ht h4 => ?_) fun h4 => ?_
    · have hm := mtTab_name ht
      subst hm
      obtain ⟨f1, f2, f3⟩ := mt_facts t
      refine main (.builtin t.id) (fun A G s E Q ov pl st r hq => ?_) (.builtin _) fun A' G' s' vs E' Q' rm' st' r' hQ' => ?_
      · obtain ⟨t1, t2⟩ := methT_ok r (methD_T h4)
        exact ⟨@getMethod_builtin _ _ _ _ _ _ _ _ _ _ t1 f1 f2 f3 t2 hq⟩
      · exact r'.consK fun _ _ r1 r2 => methD_ok rm' st' r1 r2 h4 hQ'
    · obtain ⟨f, gm, kf, of⟩ := nv.m m a ds d h4
      exact main f gm kf of

theorem callK_ok (nv : NvOk B L X) (ok : OkE B L rec) (rm : Room L A) (kn : Kn sc env) (se : Sees B G s env Γ) {f : Expr} {args : List Expr} {kws : List Keyword} {pos : Pos} {d : D} {Q : Value → Shared → Prop}
    (h : callK X (rec sc Γ) f args kws pos = some d) (hQ : Post B G s d Q) : WP B A (eval (.Call f args kws pos) env) Q E s := by
  · obtain ⟨⟨o, m, apos⟩, hf, h⟩ := bnd h
    obtain rfl := attO_eq hf
    obtain ⟨hc, h1⟩ := tst_inv h
    obtain ⟨kw, hkw, h2⟩ := bnd h1
    obtain ⟨hline, hc2⟩ := Bool.and_eq_true_iff.mp hc
    obtain ⟨hbase, hc3⟩ := Bool.and_eq_true_iff.mp hc2
    obtain ⟨hlen, hne⟩ := Bool.and_eq_true_iff.mp hc3
    cases args with
    | nil => exact nft hne
    | cons e0 rest =>
        obtain ⟨kpos, rfl⟩ := kwOne_eq hkw
        obtain ⟨a, ha, h3⟩ := bnd h2
        obtain ⟨ds, hds, h4⟩ := bnd h3
        obtain ⟨kd, hkd, h5⟩ := bnd h4
        obtain ⟨kname, ve⟩ := kw
        dsimp only at hkd h5 ⊢
        obtain ⟨fa, of, fd, gm, hfo, hft, hfd, of'⟩ := nv.kw m a ds kname kd d h5
        have hb : attributeBase o m env (eval o env) = eval o env := base_plain hbase
        have hlen' : (e0 :: rest).length ≤ 20 := Nat.le_of_ble_eq_true hlen
        have hany := star_any (env := env) (pos := pos) hds
        have hform : methodCallForm ((e0 :: rest).length + [(⟨some kname, ve, kpos⟩ : Keyword)].length) (backTo pos (starEach (e0 :: rest) env)) (backToKw pos (keywordEach [⟨some kname, ve, kpos⟩] env)) = true := form_ok hds (Nat.succ_le_succ hlen') (.inr ⟨kname, _, rfl⟩)
        rw [arm_eval_Call, hb]
        refine WP.bind (ok sc Γ o a ha A G s env E _ rm kn se fun ov G1 s1 k1 r1 => ?_)
        refine WP.bind (WP.standAt ?_)
        unfold methodCall calleeOf
        rw [hform, if_pos rfl]
        refine WP.bind (WP.holding (gm A G1 s1 E _ ov _ (se.st.ke k1) r1 ?_))
        rw [mpos_ok hline]
        refine WP.bind (WP.pure ?_)
        have hst : ∃ x r, backTo pos (starEach (e0 :: rest) env) = (false, x) :: r := by
          obtain ⟨_, _, hst0, _, _, _⟩ := each_inv hds
          exact ⟨_, _, by rw [star_plain hst0]; rfl⟩
        obtain ⟨x1, r1', hx1⟩ := hst
        have he := each_ok (E := E) (pos := pos) (s := s1) (G := G1) (env := env) (A := A) ok rm kn hds (se.ke k1) (Q := fun vs s2 => WP B A (evalAll ((backToKw pos (keywordEach [⟨some kname, ve, kpos⟩] env)).map (·.2))) (fun ks s3 => (s3.heap.get? fa = some of ∧ of.data = .func fd) ∧ WP B A (call (.ref fa) ([ov] ++ vs) ([kname].zip ks)) Q E s3) E s2) fun vs G2 s2 k2 r2 => ?_
        · rw [hx1] at he ⊢
          exact ⟨@callWith_function_kw _ _ _ _ _ _ _ _ _ _ _ _ (@evalArgs_kw _ _ _ _ _ _ _ _ _ rfl (@wpAny_mono _ _ _ _ _ _ _ _ _ he.w (fun vs s2 q => @wpAny_mono _ _ _ _ _ _ _ _ _ q.w (fun ks s3 q => ⟨q.1, q.2.w⟩) fun _ _ x => x) fun _ _ x => x))⟩
        · show WP B A (evalAll [do let v ← eval ve env; standAt pos; pure v]) _ E s2
          have st2 := (se.st.ke k1).ke k2
          rw [evalAll]
          refine WP.bind (WP.bind (ok sc Γ ve kd hkd A G2 s2 env E _ rm kn ((se.ke k1).ke k2) fun kv G3 s3 k3 r3 => WP.bind (WP.standAt (WP.pure (WP.bind (WP.holding (WP.pure (a := []) (WP.pure ?_))))))))
          have st3 := st2.ke k3
          refine ⟨⟨st3.kp fa of hft hfo, hfd⟩, ?_⟩
          exact of' A G3 s3 (ov :: vs) kv E Q rm st3 (.cons ((r1.ke (se.st.ke k1) k2).ke st2 k3) (r2.ke st2 k3)) r3 (hQ.after ((k1.trans k2).trans k3))

theorem part_eval (ok : OkE B L rec) (rm : Room L A) (kn : Kn sc env) (se : Sees B G s env Γ) {e : Option Expr} {p : Option Int} {Q : Value → Shared → Prop} (h : partE (rec sc Γ) e = some p)
    (hQ : ∀ v d G' s', Ke B G s G' s' → Rd G' s'.heap v d → partD d = some p → Q v s') : WP B A (evalPart e env) Q E s := by
  cases e with
  | none =>
    simp only [partE] at h; cases h
    exact WP.pure (hQ _ .none G s (.refl se.st) .none rfl)
  | some e =>
    simp only [partE] at h
    split at h
    · first | exact nsd h | exact nft h | exact ntf h | cases h
    rename_i d hd
    exact ok sc Γ e d hd A G s env E _ rm kn se fun v G1 s1 k1 r1 => hQ v d G1 s1 k1 r1 h

theorem subD_ok (ok : OkE B L rec) (rm : Room L A) (kn : Kn sc env) (se : Sees B G s env Γ) {v i : Expr} {pos : Pos} {d : D} {Q : Value → Shared → Prop} (h : subD (rec sc Γ) v i = some d) (hQ : Post B G s d Q) :
    WP B A (eval (.Subscript v i pos) env) Q E s := by
  obtain ⟨a, ha, h⟩ := bnd h
  refine ⟨@PyProof.Rows.Subscript_ _ _ _ _ _ _ _ _ _ (ok sc Γ v a ha A G s env E _ rm kn se fun o G1 s1 k1 r1 => ?_).w⟩
  have se1 := se.ke k1
  refine orE_inv h (fun q hq h => ?_) fun h => ?_
  · obtain ⟨p, rfl⟩ := slcOf_eq hq
    obtain ⟨l, hl, h⟩ := bnd h
    obtain ⟨hh, hhi, h⟩ := bnd h
    obtain ⟨sp, hsp, h⟩ := bnd h
    refine @wpAny_Slice _ _ _ _ _ _ _ _ _ _ (part_eval ok rm kn se1 hl fun vl dl G2 s2 k2 r2 p2 => ?_).w
    refine (part_eval ok rm kn (se1.ke k2) hhi fun vu du G3 s3 k3 r3 p3 => ?_).w
    refine (part_eval ok rm kn ((se1.ke k2).ke k3) hsp fun vs dv G4 s4 k4 r4 p4 => ?_).w
    have st1 := se1.st
    have st2 := st1.ke k2
    have st3 := st2.ke k3
    exact (slice_ok (st3.ke k4) (((r1.ke st1 k2).ke st2 k3).ke st3 k4) ((r2.ke st2 k3).ke st3 k4) (r3.ke st3 k4) r4 p2 p3 p4 h (fun o i => by obtain ⟨_, _, st⟩ := q; cases st <;> exact ⟨_, rfl⟩) (hQ.after (((k1.trans k2).trans k3).trans k4))).w
  · obtain ⟨his, h⟩ := tst_inv h
    obtain ⟨b, hb, h⟩ := bnd h
    refine (ok sc Γ i b hb A G1 s1 env E _ rm kn se1 fun iv G2 s2 k2 r2 => ?_).w
    refine (item_ok (se1.st.ke k2) (r1.ke se1.st k2) r2 h (fun o i' => ?_) (hQ.after (k1.trans k2))).w
    exact sub_plain (bnot his) o i'

theorem boolD_ok (ok : OkE B L rec) (rm : Room L A) (kn : Kn sc env) {op : BoolOp} {pos : Pos} {es : List Expr} {d : D} {Q : Value → Shared → Prop} (h : boolD (rec sc Γ) op es = some d) (se : Sees B G s env Γ) (hQ : Post B G s d Q) : WP B A (eval (.BoolOp op es pos) env) Q E s := by
  obtain ⟨e, e2, d1, t, rfl, hd1, ht, h⟩ := boolD_inv h
  cases op
  · refine ⟨@PyProof.Rows.BoolOp_and _ _ _ _ _ _ _ _ _ _ (ok sc Γ e d1 hd1 A G s env E _ rm kn se fun v G1 s1 k1 r1 => (truthy_ok (se.st.ke k1) r1 ht fun G2 s2 k2 => ?_).w).w⟩
    cases t
    · exact hQ v G2 s2 (k1.trans k2) (Option.some.inj h ▸ r1.ke (se.st.ke k1) k2)
    · exact @PyProof.Rows.BoolOp_one _ _ _ _ _ _ _ _ _ (ok sc Γ e2 d h A G2 s2 env E Q rm kn ((se.ke k1).ke k2) (hQ.after (k1.trans k2))).w
  · refine ⟨@PyProof.Rows.BoolOp_or _ _ _ _ _ _ _ _ _ _ (ok sc Γ e d1 hd1 A G s env E _ rm kn se fun v G1 s1 k1 r1 => (truthy_ok (se.st.ke k1) r1 ht fun G2 s2 k2 => ?_).w).w⟩
    cases t
    · exact @PyProof.Rows.BoolOp_one _ _ _ _ _ _ _ _ _ (ok sc Γ e2 d h A G2 s2 env E Q rm kn ((se.ke k1).ke k2) (hQ.after (k1.trans k2))).w
    · exact hQ v G2 s2 (k1.trans k2) (Option.some.inj h ▸ r1.ke (se.st.ke k1) k2)
theorem boolT_ok (ok : OkT B L rec) (rm : Room L A) (kn : Kn sc env) {op : BoolOp} {pos : Pos} {whole : Sem Value} {es : List Expr} {d : D} {b : Bool} {Q : Bool → Shared → Prop} (h : boolD (rec sc Γ) op es = some d) (hb : truth d = some b) (se : Sees B G s env Γ)
    (hQ : ∀ G' s', Ke B G s G' s' → Q b s') : WP B A (isTrue (.BoolOp op es pos) env whole) Q E s := by
  obtain ⟨e, e2, d1, t, rfl, hd1, ht, h⟩ := boolD_inv h
  have same : ∀ {u : Bool}, some d1 = some d → t = u → b = u := fun h1 h2 => by rw [← Option.some.inj h1, ht] at hb; exact (Option.some.inj hb).symm.trans h2
  cases op
  · refine ⟨@PyProof.Rows.isTrue_and _ _ _ _ _ _ _ _ _ _ (ok sc Γ e d1 t hd1 ht A G s env E _ rm kn se fun G1 s1 k1 => ?_).w⟩
    cases t
    · obtain rfl := same h rfl
      exact hQ G1 s1 k1
    · refine @PyProof.Rows.isTrue_and _ _ _ _ _ _ _ _ _ _ (ok sc Γ e2 d b h hb A G1 s1 env E _ rm kn (se.ke k1) fun G2 s2 k2 => ?_).w
      cases b
      · exact hQ G2 s2 (k1.trans k2)
      · exact @PyProof.Rows.isTrue_and_nil _ _ _ _ _ _ _ _ (hQ G2 s2 (k1.trans k2))
  · refine ⟨@PyProof.Rows.isTrue_or _ _ _ _ _ _ _ _ _ _ (ok sc Γ e d1 t hd1 ht A G s env E _ rm kn se fun G1 s1 k1 => ?_).w⟩
    cases t
    · refine @PyProof.Rows.isTrue_or _ _ _ _ _ _ _ _ _ _ (ok sc Γ e2 d b h hb A G1 s1 env E _ rm kn (se.ke k1) fun G2 s2 k2 => ?_).w
      cases b
      · exact @PyProof.Rows.isTrue_or_nil _ _ _ _ _ _ _ _ (hQ G2 s2 (k1.trans k2))
      · exact hQ G2 s2 (k1.trans k2)
    · obtain rfl := same h rfl
      exact hQ G1 s1 k1

theorem chain_ok (ok : OkE B L rec) (rm : Room L A) (kn : Kn sc env) {pos : Pos} {Q : Value → Shared → Prop} {ops : List CmpOp} {rs : List Expr} {x : Value} {a : D} {b : D} (h : chainD (rec sc Γ) a ops rs = some b) (se : Sees B G s env Γ) (rx : Rd G s.heap x a)
    (hQ : Post B G s b Q) : WP B A (compareChain pos x ops (evalEach rs env)) Q E s := by
  obtain ⟨op, r, y, c, rfl, rfl, hy, hc, h⟩ := chainD_inv h
  exact ⟨@PyProof.Rows.chain_last _ _ _ _ _ _ _ _ _ (ok sc Γ r y hy A G s env E _ rm kn se fun v G1 s1 k1 r1 => (cmpD_ok rm (se.st.ke k1) (rx.ke se.st k1) r1 hc ((hQ.of h) _ G1 s1 k1 (.bool c))).w).w⟩
theorem chainT_ok (ok : OkE B L rec) (rm : Room L A) (kn : Kn sc env) {pos : Pos} {Q : Bool → Shared → Prop} {ops : List CmpOp} {rs : List Expr} {x : Value} {a d : D} {b : Bool} (h : chainD (rec sc Γ) a ops rs = some d) (hb : truth d = some b) (se : Sees B G s env Γ) (rx : Rd G s.heap x a)
    (hQ : ∀ G' s', Ke B G s G' s' → Q b s') : WP B A (testChain pos x ops (evalEach rs env)) Q E s := by
  obtain ⟨op, r, y, c, rfl, rfl, hy, hc, h⟩ := chainD_inv h
  rw [← Option.some.inj h] at hb
  exact ⟨@PyProof.Rows.test_last _ _ _ _ _ _ _ _ _ (ok sc Γ r y hy A G s env E _ rm kn se fun v G1 s1 k1 r1 => (cmpD_ok rm (se.st.ke k1) (rx.ke se.st k1) r1 hc (@wpAny_truthy_bool _ _ _ _ _ _ (Option.some.inj hb ▸ hQ G1 s1 k1))).w).w⟩

theorem cmp_ok (ok : OkE B L rec) (rm : Room L A) (kn : Kn sc env) (se : Sees B G s env Γ) {l : Expr} {ops : List CmpOp} {rs : List Expr} {pos : Pos} {a d : D} (hm : lastMarks ops rs = false) (ha : rec sc Γ l = some a) (h : chainD (rec sc Γ) a ops rs = some d) :
    (∀ {Q : Value → Shared → Prop}, Post B G s d Q → WP B A (eval (.Compare l ops rs pos) env) Q E s) ∧
    (∀ {Q : Bool → Shared → Prop} {b : Bool} {whole : Sem Value}, truth d = some b → (∀ G' s', Ke B G s G' s' → Q b s') → WP B A (isTrue (.Compare l ops rs pos) env whole) Q E s) := by
  constructor
  · intro Q hQ
    show WP B A (do compareChain pos (← eval l env) ops (markedEach ops rs (evalEach rs env))) Q E s
    rw [markedEach_of_false _ _ _ hm]
    refine WP.bind (ok sc Γ l a ha A G s env E _ rm kn se fun v G1 s1 k1 r1 => chain_ok ok rm kn h (se.ke k1) r1 (hQ.after k1))
  · intro Q b' whole hb hQ
    show WP B A (do testChain pos (← eval l env) ops (markedEach ops rs (evalEach rs env))) Q E s
    rw [markedEach_of_false _ _ _ hm]
    refine WP.bind (ok sc Γ l a ha A G s env E _ rm kn se fun v G1 s1 k1 r1 => chainT_ok ok rm kn h hb (se.ke k1) r1 fun G2 s2 k2 => hQ G2 s2 (k1.trans k2))
end
end Mine

end
section
open PySem PySem.W PyProof.Rows
set_option Elab.async false
namespace Mine

noncomputable def testsF (env : Env) : Expr → Bool → Sem (ForInStep Bool) := fun c r => if r = true then do let ok ← isTrue c env (eval c env); pure (ForInStep.yield ok) else pure (ForInStep.yield r)

noncomputable def emitT (acc : Value) (elt : Expr) (env : Env) : Sem Unit := eval elt env >>= fun x => call (.builtin "list.append") [acc, x] >>= fun _ => pure ()
noncomputable def moreT (e : Expr) (depth : Nat) (acc : Value) (iter' : Expr) (env : Env) : Sem Unit :=
  eval iter' env >>= fun x => standAt iter'.pos >>= fun _ => foldedSetIterable iter' env x >>= fun x => holding [x] (pyIter x) >>= fun i => runOwn (.compStart e (depth + 1) i acc env) env >>= fun _ => pure ()
noncomputable def turnT (e : Expr) (depth : Nat) (it acc : Value) (target iter : Expr) (ifs : List Expr) (inner : Sem Unit) (env : Env) : Sem Fin :=
  standAt iter.pos >>= fun _ => pyNext it >>= fun r => match r with
      | none => pure (.done .next)
      | some v => letOwnedTupleGo target it v >>= fun _ => assign target env v >>= fun _ => forIn ifs true (testsF env) >>= fun ok => if ok = true then
          (inner >>= fun _ => again (.compLoop e depth it acc env))
          else again (.compLoop e depth it acc env)

theorem compTurn_emit {elt : Expr} {gens : List Comprehension} {scope : Scope} {pos : Pos} {depth : Nat} {it acc : Value} {env : Env} {target iter : Expr} {ifs : List Expr} (h1 : gens[depth]? = some ⟨target, iter, ifs, 0⟩) (h2 : gens[depth + 1]? = none) :
    compTurn (.ListComp elt gens scope pos) depth it acc env = turnT (.ListComp elt gens scope pos) depth it acc target iter ifs (emitT acc elt env) env := by
  unfold compTurn turnT emitT
  simp only [h1, h2]
  rfl

theorem compTurn_more {elt : Expr} {gens : List Comprehension} {scope : Scope} {pos : Pos} {depth : Nat} {it acc : Value} {env : Env} {target iter target' iter' : Expr} {ifs ifs' : List Expr} (h1 : gens[depth]? = some ⟨target, iter, ifs, 0⟩)
    (h2 : gens[depth + 1]? = some ⟨target', iter', ifs', 0⟩) :
    compTurn (.ListComp elt gens scope pos) depth it acc env = turnT (.ListComp elt gens scope pos) depth it acc target iter ifs (moreT (.ListComp elt gens scope pos) depth acc iter' env) env := by
  unfold compTurn turnT moreT
  simp only [h1, h2, bind_assoc, pure_bind]
  rfl

section
variable {B : Bs} {A : Around} {G : Gh} {s : Shared} {Γ : Gm} {sc : Kd} {env : Env} {E : Value → Shared → Prop} {L : Nat} {X : Nv} {rec : Ev}

theorem tests_skip (env : Env) : ∀ (l : List Expr), forIn l false (testsF env) = (pure false : Sem Bool)
  | [] => List.forIn_nil
  | e :: l => by
    rw [List.forIn_cons]
    show (pure (ForInStep.yield false) >>= _) = _
    rw [pure_bind]
    exact tests_skip env l

theorem tests_ok (okT : OkT B L rec) (rm : Room L A) (kn : Kn sc env) : ∀ {es : List Expr} {b : Bool} {G : Gh} {s : Shared} {Q : Bool → Shared → Prop}, testsD (rec sc Γ) es = some b → Sees B G s env Γ → (∀ G' s', Ke B G s G' s' → Q b s') →
    WP B A (forIn es true (testsF env)) Q E s
  | [], b, G, s, Q, h, se, hQ => by
    cases h
    rw [List.forIn_nil]
    exact WP.pure (hQ G s (.refl se.st))
  | e :: es, b, G, s, Q, h, se, hQ => by
    obtain ⟨d, hd, h⟩ := bnd (f := fun d => (truth d).bind fun b => cond b (testsD (rec sc Γ) es) (some false)) h
    obtain ⟨c, ht, h⟩ := bnd h
    rw [List.forIn_cons]
    show WP B A ((do let ok ← isTrue e env (eval e env); pure (ForInStep.yield ok)) >>= _) Q E s
    refine WP.bind (WP.bind (okT sc Γ e d c hd ht A G s env E _ rm kn se fun G1 s1 k1 => WP.pure ?_))
    cases c with
    | true => exact tests_ok okT rm kn h (se.ke k1) fun G2 s2 k2 => hQ G2 s2 (k1.trans k2)
    | false =>
      show WP B A (forIn es false (testsF env)) Q E s1
      rw [tests_skip]
      exact WP.pure (Option.some.inj h ▸ hQ G1 s1 k1)

theorem compStart_ok {elt : Expr} {gens : List Comprehension} {scope : Scope} {pos : Pos} {depth : Nat} {I : Addr} {acc : Value} {env : Env} {target iter : Expr} {ifs : List Expr} {R : Result → Shared → Prop} {xs : List D} (h1 : gens[depth]? = some ⟨target, iter, ifs, 0⟩)
    (src : Src B A I G s xs) (h : CP B A (.compLoop (.ListComp elt gens scope pos) depth (.ref I) acc env) R s) : CP B A (.compStart (.ListComp elt gens scope pos) depth (.ref I) acc env) R s := by
  refine ⟨@codeAny_of_tree _ _ _ _ _ ?_⟩
  show wpAny _ _ ((compStart (.ListComp elt gens scope pos) depth (.ref I) acc env).onRaise (fun x => do noteFrame x env; standAt theWindowsPlace)) _ _ s
  refine @wpAny_notedAt _ _ _ _ _ _ _ _ _ ?_
  unfold compStart
  have hc : (clausesOf (.ListComp elt gens scope pos))[depth]? = some ⟨target, iter, ifs, 0⟩ := h1
  rw [hc]
  show wpAny _ _ (ask >>= _) _ _ s
  refine @wpAny_bind _ _ _ _ _ _ _ _ _ (@wpAny_askSetting _ _ _ _ _ (@wpAny_ite _ _ _ _ _ _ _ _ _ _ ?_))
  split
  · first
      | exact @wpAny_bind _ _ _ _ _ _ _ _ _ (@wpAny_pure _ _ _ _ _ _ _ (@wpAny_pure _ _ _ _ _ _ _ (And.intro rfl h.w)))
      | exact @wpAny_pure _ _ _ _ _ _ _ (And.intro rfl h.w)
  · have h' : wpAny B.M A (pyIter (.ref I)) (fun it' s' => codeAny B.M A (.compLoop (.ListComp elt gens scope pos) depth it' acc env) R s') (notedBy B.M A env fun x s' => R (.error x) s') s := (src.self h.w).w
    first
      | exact @wpAny_bind _ _ _ _ _ _ _ _ _ (@wpAny_rule _ _ _ _ _ _ (@wpAny_bind _ _ _ _ _ _ _ _ _ (@wpAny_standAt _ _ _ _ _ _ (@wpAny_bind _ _ _ _ _ _ _ _ _ (@wpAny_mono _ _ _ _ _ _ _ _ _ h' (fun it' s' h' => @wpAny_pure _ _ _ _ _ _ _ (And.intro rfl h')) fun _ _ x => x)))))
      | (refine @wpAny_bind _ _ _ _ _ _ _ _ _ (@wpAny_rule _ _ _ _ _ _ ?_); show wpAny _ _ (standAt iter.pos >>= _) _ _ s; exact @wpAny_bind _ _ _ _ _ _ _ _ _ (@wpAny_standAt _ _ _ _ _ _ (@wpAny_bind _ _ _ _ _ _ _ _ _ (@wpAny_mono _ _ _ _ _ _ _ _ _ h' (fun it' s' h' => @wpAny_pure _ _ _ _ _ _ _ (And.intro rfl h')) fun _ _ x => x))))

theorem look_put_ne {Γ0 Γ : Gm} {x : Str} {d0 : D} (hn : look Γ0 x = none) (hi : ∀ y d, look Γ0 y = some d → look Γ y = some d) : ∀ y d, look Γ0 y = some d → look (put Γ x d0) y = some d := fun y d hy => by
  rw [look_put, if_neg (fun q => by rw [q, hn] at hy; exact nsd hy)]; exact hi y d hy
theorem look_bindNs : ∀ {es : List Expr} {ds : List D} {Γ Γ' Γ0 : Gm}, bindNs sc es ds Γ = some Γ' → (∀ e ∈ es, ∀ x p, e = .Name x p → look Γ0 x = none) → (∀ y d, look Γ0 y = some d → look Γ y = some d) → ∀ y d, look Γ0 y = some d → look Γ' y = some d
  | [], _, Γ, Γ', Γ0, h, _, hi => (bindNs_nil h).2 ▸ hi
  | e :: es, _, Γ, Γ', Γ0, h, hn, hi => by
    obtain ⟨x, p, d, ds, rfl, rfl, _, h⟩ := bindNs_inv h
    exact look_bindNs h (fun e he => hn e (List.mem_cons_of_mem _ he)) (look_put_ne (hn _ List.mem_cons_self x p rfl) hi)
theorem look_bindN {t : Expr} {x : D} {Γ' : Gm} (h : bindN sc Γ t x = some Γ') : bindT sc t x Γ = some Γ' ∧ ∀ y d, look Γ y = some d → look Γ' y = some d := by
  obtain ⟨hn, h⟩ := tst_inv h
  refine ⟨h, ?_⟩
  cases bindT_inv h with
  | name hx e =>
      rw [← e]
      exact look_put_ne (Option.isNone_iff_eq_none.mp hn) fun _ _ h => h
  | tup e h' =>
      refine look_bindNs (Γ0 := Γ) h' (fun e he z q hz => ?_) (fun _ _ h => h)
      have := List.all_eq_true.mp hn e he
      rw [hz] at this
      exact Option.isNone_iff_eq_none.mp this

theorem go_ok {t : Expr} {I : Addr} {v : Value} {xs : List D} {Γ Γ' : Gm} {x : D} {Q : Unit → Shared → Prop} (h : bindT sc t x Γ = some Γ') (src : Src B A I G s xs) (hQ : Q () s) : WP B A (letOwnedTupleGo t (.ref I) v) Q E s := by
  cases bindT_inv h with
  | name _ _ => exact WP.pure hQ
  | tup _ _ => exact src.go hQ

noncomputable def InnerOk (B : Bs) (L : Nat) (rec : Ev) (sc : Kd) (elt : Expr) (env : Env) (W : List Addr) (acc : Addr) (gs : List Comprehension) (inner : Sem Unit) : Prop :=
  ∀ A G s Γ o items n ds E Q, Room L A → Kn sc env → Sees B G s env Γ → Own B G s sc env W → acc ∈ G.O → acc ∉ W → B.h0.get? acc = none → (∀ y c, env.cells.lookup y = some c → c ≠ acc ∧ c < s.heap.objs.size) → LstAt s.heap acc items n → RdL G s.heap items.toList ds → compI rec sc elt gs Γ = some o → ds.length + o.length ≤ 1000 →
    (∀ G' s' items' n', Kw B (acc :: W) G s G' s' → Sees B G' s' env Γ → Own B G' s' sc env W → LstAt s'.heap acc items' n' → RdL G' s'.heap items'.toList (ds ++ o) → Q () s') → WP B A inner Q E s

theorem lst_kw {W : List Addr} {G' : Gh} {s' : Shared} {a : Addr} {items : Array Value} {n : Nat} (h : LstAt s.heap a items n) (k : Kw B W G s G' s') (ha : a ∉ W) (ht : a ∉ B.tb) : LstAt s'.heap a items n :=
  k.kp a _ (fun m => (List.mem_append.mp m).elim ha ht) h
theorem not_tb {a : Addr} (h : B.h0.get? a = none) : a ∉ B.tb := fun m => by
  obtain ⟨vs, e⟩ := B.tab.some m; rw [h] at e; cases e


noncomputable def InnerP (B : Bs) (L : Nat) (sc : Kd) (env : Env) (W W0 : List Addr) (acc : Addr) (Γ : Gm) (P P' : Gh → Shared → Array Value → List D → Prop) (inner : Sem Unit) : Prop :=
  ∀ A G s items n ds E Q, P G s items ds → Room L A → Kn sc env → Sees B G s env Γ → Own B G s sc env W → acc ∈ G.O → acc ∉ W → B.h0.get? acc = none → (∀ y c, env.cells.lookup y = some c → c ≠ acc ∧ c < s.heap.objs.size) → LstAt s.heap acc items n → RdL G s.heap items.toList ds →
    (∀ G' s' items' n' ds', Kw B (acc :: (W0 ++ W)) G s G' s' → Sees B G' s' env Γ → Own B G' s' sc env W → LstAt s'.heap acc items' n' → RdL G' s'.heap items'.toList ds' → P' G' s' items' ds' → Q () s') → WP B A inner Q E s
inductive Step (B : Bs) (L : Nat) (rec : Ev) (sc : Kd) (env : Env) (W W0 : List Addr) (acc : Addr) (target : Expr) (ifs : List Expr) (Γ : Gm) (x : D) (P P' : Gh → Shared → Array Value → List D → Prop) (inner : Sem Unit) : Prop
  | no (Γ1 : Gm) (hb : bindN sc Γ target x = some Γ1) (ht : testsD (rec sc Γ1) ifs = some false) (hp : ∀ G s items ds, P G s items ds → P' G s items ds) : Step B L rec sc env W W0 acc target ifs Γ x P P' inner
  | yes (Γ1 : Gm) (hb : bindN sc Γ target x = some Γ1) (ht : testsD (rec sc Γ1) ifs = some true) (hp : InnerP B L sc env W W0 acc Γ1 P P' inner) : Step B L rec sc env W W0 acc target ifs Γ x P P' inner

inductive LInv (B : Bs) (A : Around) (G : Gh) (s : Shared) (sc : Kd) (env : Env) (Γ : Gm) (W W0 : List Addr) (acc I : Addr) (P : List D → Gh → Shared → Array Value → List D → Prop) (k : Nat) (s1 : Shared) : Prop
  | mk (G1 : Gh) (xs1 ds1 : List D) (items1 : Array Value) (n1 : Nat) (hk : xs1.length = k) (k1 : Kw B (acc :: I :: (W0 ++ W)) G s G1 s1) (se : Sees B G1 s1 env Γ) (ow : Own B G1 s1 sc env W) (hl : LstAt s1.heap acc items1 n1) (rl : RdL G1 s1.heap items1.toList ds1)
    (src : Src B A I G1 s1 xs1) (p : P xs1 G1 s1 items1 ds1) : LInv B A G s sc env Γ W W0 acc I P k s1
theorem loop_gen (okT : OkT B L rec) {W W0 : List Addr} {acc : Addr} {elt : Expr} {gens : List Comprehension} {scope : Scope} {pos : Pos} {depth : Nat} {target iter : Expr} {ifs : List Expr} {inner : Sem Unit} {P : List D → Gh → Shared → Array Value → List D → Prop}
    {I : Addr} (hst : ∀ xs G s G' s' items ds, St B G s → (∀ a ∈ I :: W, a ∈ G.O) → P xs G s items ds → Kw B (I :: W) G s G' s' → P xs G' s' items ds) (hS : ∀ x xs G s items ds, P (x :: xs) G s items ds → Step B L rec sc env W W0 acc target ifs Γ x (P (x :: xs)) (P xs) inner)
    (hturn : compTurn (.ListComp elt gens scope pos) depth (.ref I) (.ref acc) env = turnT (.ListComp elt gens scope pos) depth (.ref I) (.ref acc) target iter ifs inner env)
    (rm : Room L A) (kn : Kn sc env) (hI0 : B.h0.get? I = none) (hIW : I ∉ W) (hI00 : I ∉ W0) (hW0 : ∀ a ∈ W0, a ∈ G.O) (ha0 : B.h0.get? acc = none) (haW : acc ∉ W) (haI : acc ≠ I) (hc : ∀ y c, env.cells.lookup y = some c → c ≠ acc ∧ c ≠ I ∧ c < s.heap.objs.size)
    {R : Result → Shared → Prop} {xs : List D} {ds : List D} {items : Array Value} {n : Nat}
    (se : Sees B G s env Γ) (ow : Own B G s sc env W) (hI : I ∈ G.O) (hacc : acc ∈ G.O) (hl : LstAt s.heap acc items n) (rl : RdL G s.heap items.toList ds) (src : Src B A I G s xs) (p : P xs G s items ds)
    (hR : ∀ G' s' items' n' ds', Kw B (acc :: I :: (W0 ++ W)) G s G' s' → Sees B G' s' env Γ → Own B G' s' sc env W → LstAt s'.heap acc items' n' → RdL G' s'.heap items'.toList ds' → P [] G' s' items' ds' → R (.ok .next) s') :
    CP B A (.compLoop (.ListComp elt gens scope pos) depth (.ref I) (.ref acc) env) R s := by
  have hIt := not_tb hI0
  have hat := not_tb ha0
  refine ⟨@codeAny_loop _ _ _ _ _ rfl (LInv B A G s sc env Γ W W0 acc I P) (fun k s1 hInv => ?_) xs.length ⟨G, xs, ds, items, n, rfl, .refl se.st, se, ow, hl, rl, src, p⟩⟩
  obtain ⟨G1, xs1, ds1, items1, n1, hk, k1, se1, ow1, hl1, rl1, src1, p1⟩ := hInv
  show wpAny _ A ((compTurn (.ListComp elt gens scope pos) depth (.ref I) (.ref acc) env).onRaise (fun x => do noteFrame x env; theTreesLotGoes x)) _ _ s1
  refine @wpAny_noted _ _ _ _ _ _ _ _ ?_
  rw [hturn]
  unfold turnT
  have hI1 : I ∈ G1.O := k1.o ▸ hI
  have hacc1 : acc ∈ G1.O := k1.o ▸ hacc
  have hW2 : ∀ a ∈ [I], a ∈ G1.O := fun a ha => by rw [List.mem_singleton.mp ha]; exact hI1
  have hl2 : env.locals ∉ [I] := fun q => hIW (List.mem_singleton.mp q ▸ ow1.loc)
  have hc2 : ∀ y c, env.cells.lookup y = some c → c ∉ [I] := fun y c hy q => (hc y c hy).2.1 (List.mem_singleton.mp q)
  have h02 : ∀ a ∈ [I], B.h0.get? a = none := fun a ha => by rw [List.mem_singleton.mp ha]; exact hI0
  have w2 : ∀ a ∈ [I], a ∈ acc :: I :: (W0 ++ W) := fun a ha => by rw [List.mem_singleton.mp ha]; exact List.mem_cons_of_mem _ List.mem_cons_self
  have w3 : ∀ a ∈ [I], a ∈ I :: W := fun a ha => by rw [List.mem_singleton.mp ha]; exact List.mem_cons_self
  have wW : ∀ a ∈ W, a ∈ acc :: I :: (W0 ++ W) := fun a ha => List.mem_cons_of_mem _ (List.mem_cons_of_mem _ (List.mem_append_right _ ha))
  have haI' : acc ∉ [I] := fun q => haI (List.mem_singleton.mp q)
  have hIW1 : ∀ a ∈ I :: W, a ∈ G1.O := fun a ha => (List.mem_cons.mp ha).elim (fun q => q ▸ hI1) (ow1.sub a)
  refine (WP.bind (WP.standAt ?_)).w
  cases xs1 with
  | nil =>
    refine WP.bind (src1.done se1.st hIt fun s2 k2 => ?_)
    exact WP.pure (hR G1 s2 items1 n1 ds1 (k1.trans (k2.mono w2)) (se1.kw k2 hW2 h02 hl2 hc2) (ow1.kw k2 fun y c hy hc' => hc2 y c hc') (lst_kw hl1 k2 haI' hat) (rl1.up (k2.up se1.st hW2)) (hst _ _ _ _ _ _ _ se1.st hIW1 p1 (k2.mono w3)))
  | cons x xs1 =>
    refine WP.bind (src1.next se1.st hI1 hIt fun v s2 k2 rv src2 => ?_)
    have se2 := se1.kw k2 hW2 h02 hl2 hc2
    have ow2 := ow1.kw k2 fun y c hy hc' => hc2 y c hc'
    have al2 := lst_kw hl1 k2 haI' hat
    have rl2 := rl1.up (k2.up se1.st hW2)
    have p2 := hst _ _ _ _ _ _ _ se1.st hIW1 p1 (k2.mono w3)
    have turn : ∀ Γ1, bindN sc Γ target x = some Γ1 → ∀ b, testsD (rec sc Γ1) ifs = some b → ∀ {K : Bool → Sem Fin} {Q : Fin → Shared → Prop} {E : Value → Shared → Prop},
        (∀ G4 s4, Kw B (acc :: I :: (W0 ++ W)) G s G4 s4 → Sees B G4 s4 env Γ1 → Own B G4 s4 sc env W → LstAt s4.heap acc items1 n1 → RdL G4 s4.heap items1.toList ds1 → Src B A I G4 s4 xs1 → P (x :: xs1) G4 s4 items1 ds1 → WP B A (K b) Q E s4) →
        WP B A (letOwnedTupleGo target (.ref I) v >>= fun _ => assign target env v >>= fun _ => forIn ifs true (testsF env) >>= K) Q E s2 := fun Γ1 hb b ht {K Q E} hK => by
      obtain ⟨hb1, hb2⟩ := look_bindN hb
      refine WP.bind (go_ok hb1 src2 ?_)
      refine WP.bind (assign_ok rm hb1 se2 ow2 rv fun s3 st3 => ?_)
      have src3 := src2.kw se2.st st3.kw ow2.sub hIW hIt
      refine WP.bind (tests_ok okT rm kn ht st3.se fun G4 s4 k4 => ?_)
      exact hK G4 s4 (((k1.trans (k2.mono w2)).trans (st3.kw.mono wW)).trans (.of_ke k4)) (st3.se.ke k4) (st3.ow.ke k4) (lst_kw (lst_kw al2 st3.kw haW hat) k4 (fun h => nomatch h) hat) ((rl2.up' (st3.kw.up se2.st ow2.sub)).ke st3.se.st k4) (src3.kw st3.se.st k4 (fun _ h => nomatch h) (fun h => nomatch h) hIt)
        (hst _ _ _ _ _ _ _ st3.se.st hIW1 (hst _ _ _ _ _ _ _ se2.st hIW1 p2 (st3.kw.mono fun a ha => List.mem_cons_of_mem _ ha)) (.of_ke k4))
    cases hS _ _ _ _ _ _ p2 with
    | no Γ1 hb ht hp =>
      refine turn Γ1 hb false ht fun G4 s4 k4 se4 ow4 al4 rl4 src4 p4 => ?_
      rw [if_neg (by simp)]
      exact WP.pure ⟨rfl, xs1.length, by rw [← hk]; exact Nat.lt_succ_self _, ⟨G4, xs1, ds1, items1, n1, rfl, k4, se4.less (look_bindN hb).2, ow4, al4, rl4, src4, hp _ _ _ _ p4⟩⟩
    | yes Γ1 hb ht hp =>
      refine turn Γ1 hb true ht fun G4 s4 k4 se4 ow4 al4 rl4 src4 p4 => ?_
      rw [if_pos rfl]
      have hacc4 : acc ∈ G4.O := by rw [k4.o]; exact hacc
      refine WP.bind (hp A G4 s4 items1 n1 ds1 _ _ p4 rm kn se4 ow4 hacc4 haW ha0 (fun y c hy => ⟨(hc y c hy).1, Nat.lt_of_lt_of_le (hc y c hy).2.2 k4.sz⟩) al4 rl4 fun G5 s5 items5 n5 ds5 k5 se5 ow5 al5 rl5 p5 => ?_)
      refine WP.pure ⟨rfl, xs1.length, by rw [← hk]; exact Nat.lt_succ_self _, ⟨G5, xs1, ds5, items5, n5, rfl, k4.trans (k5.mono fun a ha => ?_), se5.less (look_bindN hb).2, ow5, al5, rl5, ?_, p5⟩⟩
      · rcases List.mem_cons.mp ha with q | q
        · rw [q]; exact List.mem_cons_self
        · exact List.mem_cons_of_mem _ (List.mem_cons_of_mem _ q)
      · refine src4.kw se4.st k5 (fun a ha => ?_) (fun q => (List.mem_cons.mp q).elim (Ne.symm haI) fun q => (List.mem_append.mp q).elim hI00 hIW) hIt
        rcases List.mem_cons.mp ha with q | q
        · rw [q]; exact hacc4
        · exact (List.mem_append.mp q).elim (fun q => k4.o ▸ hW0 a q) (ow4.sub a)

noncomputable def CP0 (rec : Ev) (sc : Kd) (elt : Expr) (gs : List Comprehension) (target : Expr) (ifs : List Expr) (Γ : Gm) (tot : List D) (xs : List D) (_ : Gh) (_ : Shared) (_ : Array Value) (ds : List D) : Prop :=
  ∃ out, compL (bindN sc Γ target) (fun Γ' => testsD (rec sc Γ') ifs) (compI rec sc elt gs) xs = some out ∧ ds ++ out = tot
theorem compL_inv {bind : D → Option Gm} {tests : Gm → Option Bool} {inn : Gm → Option (List D)} {x : D} {xs out : List D} (h : compL bind tests inn (x :: xs) = some out) :
    ∃ Γ1 b, bind x = some Γ1 ∧ tests Γ1 = some b ∧ match b with | false => compL bind tests inn xs = some out | true => ∃ o r, inn Γ1 = some o ∧ compL bind tests inn xs = some r ∧ o ++ r = out := by
  obtain ⟨Γ1, hb, h⟩ := bnd (f := fun Γ => (tests Γ).bind fun b => cond b ((inn Γ).bind fun o => (compL bind tests inn xs).map fun r => o ++ r) (compL bind tests inn xs)) h
  obtain ⟨b, ht, h⟩ := bnd h
  refine ⟨Γ1, b, hb, ht, ?_⟩
  cases b with
  | false => exact h
  | true =>
    obtain ⟨o, ho, h⟩ := bnd h
    obtain ⟨r, hr, h⟩ := map_inv h
    exact ⟨o, r, ho, hr, Option.some.inj h⟩
theorem step0 {W : List Addr} {acc : Addr} {elt : Expr} {gs : List Comprehension} {target : Expr} {ifs : List Expr} {inner : Sem Unit} {tot : List D} (hin : InnerOk B L rec sc elt env W acc gs inner) (hlen : tot.length ≤ 1000)
    (x : D) (xs : List D) (G : Gh) (s : Shared) (items : Array Value) (ds : List D) (h : CP0 rec sc elt gs target ifs Γ tot (x :: xs) G s items ds) : Step B L rec sc env W [] acc target ifs Γ x (CP0 rec sc elt gs target ifs Γ tot (x :: xs)) (CP0 rec sc elt gs target ifs Γ tot xs) inner := by
  obtain ⟨out, h, -⟩ := h
  obtain ⟨Γ1, b, hb, ht, h⟩ := compL_inv h
  cases b with
  | false =>
    refine .no Γ1 hb ht fun G s items ds ⟨out, h, he⟩ => ⟨out, ?_, he⟩
    obtain ⟨Γ2, b, hb2, ht2, h⟩ := compL_inv h
    obtain rfl := Option.some.inj (hb.symm.trans hb2)
    obtain rfl := Option.some.inj (ht.symm.trans ht2)
    exact h
  | true =>
    refine .yes Γ1 hb ht fun A G s items n ds E Q ⟨out, h, he⟩ rm kn se ow h1 h2 h3 h4 hl rl hQ => ?_
    obtain ⟨Γ2, b, hb2, ht2, h⟩ := compL_inv h
    obtain rfl := Option.some.inj (hb.symm.trans hb2)
    obtain rfl := Option.some.inj (ht.symm.trans ht2)
    obtain ⟨o, r, ho, hr, hor⟩ := h
    subst hor
    refine hin A G s Γ1 o items n ds E Q rm kn se ow h1 h2 h3 h4 hl rl ho ?_ fun G' s' items' n' k se' ow' hl' rl' => hQ G' s' items' n' _ k se' ow' hl' rl' ⟨r, hr, by rw [List.append_assoc]; exact he⟩
    have := congrArg List.length he
    rw [List.length_append, List.length_append] at this; omega
theorem loop_ok (okT : OkT B L rec) {W : List Addr} {acc : Addr} {elt : Expr} {gens gs : List Comprehension} {scope : Scope} {pos : Pos} {depth : Nat} {target iter : Expr} {ifs : List Expr} {inner : Sem Unit}
    (hin : InnerOk B L rec sc elt env W acc gs inner) {I : Addr} (hturn : compTurn (.ListComp elt gens scope pos) depth (.ref I) (.ref acc) env = turnT (.ListComp elt gens scope pos) depth (.ref I) (.ref acc) target iter ifs inner env)
    (rm : Room L A) (kn : Kn sc env) (hI0 : B.h0.get? I = none) (hIW : I ∉ W) (ha0 : B.h0.get? acc = none) (haW : acc ∉ W) (haI : acc ≠ I) (hc : ∀ y c, env.cells.lookup y = some c → c ≠ acc ∧ c ≠ I ∧ c < s.heap.objs.size)
    {R : Result → Shared → Prop} {xs : List D} {out ds : List D} {items : Array Value} {n : Nat}
    (se : Sees B G s env Γ) (ow : Own B G s sc env W) (hI : I ∈ G.O) (hacc : acc ∈ G.O) (hl : LstAt s.heap acc items n) (rl : RdL G s.heap items.toList ds) (src : Src B A I G s xs)
    (h : compL (bindN sc Γ target) (fun Γ' => testsD (rec sc Γ') ifs) (compI rec sc elt gs) xs = some out) (hlen : ds.length + out.length ≤ 1000)
    (hR : ∀ G' s' items' n', Kw B (acc :: I :: W) G s G' s' → Sees B G' s' env Γ → Own B G' s' sc env W → LstAt s'.heap acc items' n' → RdL G' s'.heap items'.toList (ds ++ out) → R (.ok .next) s') :
    CP B A (.compLoop (.ListComp elt gens scope pos) depth (.ref I) (.ref acc) env) R s :=
  loop_gen (P := CP0 rec sc elt gs target ifs Γ (ds ++ out)) okT (fun _ _ _ _ _ _ _ _ _ h _ => h) (step0 hin (by rw [List.length_append]; exact hlen)) hturn rm kn hI0 hIW (fun h => nomatch h) (fun _ h => nomatch h) ha0 haW haI hc se ow hI hacc hl rl src ⟨out, h, rfl⟩
    fun G' s' items' n' ds' k se' ow' hl' rl' ⟨o, ho, he⟩ => hR G' s' items' n' k se' ow' hl' (by
      rw [← he, ← Option.some.inj ho, List.append_nil]; exact rl')

theorem emit_ok (ok : OkE B L rec) {W : List Addr} {acc : Addr} {elt : Expr} : InnerOk B L rec sc elt env W acc [] (emitT (.ref acc) elt env) := by
  intro A G s Γ o items n ds E Q rm kn se ow hacc haW ha0 hc hl rl h hlen hQ
  obtain ⟨d, hd, h⟩ := map_inv (f := fun d => [d]) h
  cases h
  unfold emitT
  refine WP.bind (ok sc Γ elt d hd A G s env E _ rm kn se fun v G1 s1 k1 r1 => ?_)
  have st1 := se.st.ke k1
  have hat := not_tb ha0
  have hl1 : LstAt s1.heap acc items n := lst_kw hl k1 (fun h => nomatch h) hat
  have hacc1 : acc ∈ G1.O := by rw [k1.o]; exact hacc
  have rl1 := rl.ke se.st k1
  refine WP.bind ⟨@wpAny_list_append_plain _ _ _ _ _ _ _ _ _ ⟨n, hl1⟩ (fun h' hp hs => ?_) ?_⟩
  · obtain ⟨n', hp⟩ := hp
    have k2 : Kw B [acc] G1 s1 G1 { s1 with heap := h' } := Kw.same1 st1 (List.mem_singleton.mpr rfl) hat hs (Nat.le_refl _) hl1.nc
    have hW2 : ∀ a ∈ [acc], a ∈ G1.O := fun a ha => by rw [List.mem_singleton.mp ha]; exact hacc1
    have up2 := k2.up st1 hW2
    have hc2 : ∀ y c, env.cells.lookup y = some c → c ∉ [acc] := fun y c hy q => (hc y c hy).1 (List.mem_singleton.mp q)
    refine WP.pure (hQ G1 _ (items.push v) n' ((Kw.of_ke k1).trans (k2.mono fun a ha => by rw [List.mem_singleton.mp ha]; exact List.mem_cons_self)) ((se.ke k1).kw k2 hW2 (fun a ha => by rw [List.mem_singleton.mp ha]; exact ha0) (fun q => haW (List.mem_singleton.mp q ▸ ow.loc)) hc2)
      ((ow.ke k1).kw k2 fun y c hy hc' => hc2 y c hc') hp ?_)
    rw [Array.toList_push]
    exact (rl1.up up2).snoc (r1.up up2)
  · rw [rl.size, sizeLine_eq]; omega
end
end Mine

end
section
open PySem PySem.W PyProof.Rows
set_option Elab.async false
namespace Mine

theorem St.fresh0 {B : Bs} {G : Gh} {s : Shared} (st : St B G s) {a : Addr} (ha : s.heap.objs.size ≤ a) : B.h0.get? a = none := by
  cases e : B.h0.get? a with
  | none => rfl
  | some o =>
    have hn : a ∉ B.tb := fun m => Nat.not_lt.mpr ha (st.lt a (st.sub a m))
    exact absurd (Heap.lt_size (st.kp a o hn e)) (Nat.not_lt.mpr ha)

section
variable {B : Bs} {A : Around} {G : Gh} {s : Shared} {Γ : Gm} {sc : Kd} {env : Env} {E : Value → Shared → Prop} {L : Nat} {X : Nv} {rec : Ev}

theorem folded_of {e : Expr} (h : isSet e = false) (env : Env) (x : Value) : foldedSetIterable e env x = pure x := by
  cases e <;> first | exact ntf h | rfl

theorem more_ok (ok : OkE B L rec) (okT : OkT B L rec) {W : List Addr} {acc : Addr} {elt : Expr} {gens gs : List Comprehension} {scope : Scope} {pos : Pos} {depth : Nat} {target iter : Expr} {ifs : List Expr} {inner : Sem Unit} (h1 : gens[depth + 1]? = some ⟨target, iter, ifs, 0⟩)
    (hin : InnerOk B L rec sc elt env W acc gs inner)
    (hturn : ∀ I, compTurn (.ListComp elt gens scope pos) (depth + 1) (.ref I) (.ref acc) env = turnT (.ListComp elt gens scope pos) (depth + 1) (.ref I) (.ref acc) target iter ifs inner env) :
    InnerOk B L rec sc elt env W acc (⟨target, iter, ifs, 0⟩ :: gs) (moreT (.ListComp elt gens scope pos) depth (.ref acc) iter env) := by
  intro A G s Γ o items n ds E Q rm kn se ow hacc haW ha0 hc hl rl h hlen hQ
  obtain ⟨hset, h⟩ := tst_inv (b := !isSet iter) (o := (rec sc Γ iter).bind fun d => (iterD d).bind fun xs => compL (bindN sc Γ target) (fun Γ' => testsD (rec sc Γ') ifs) (compI rec sc elt gs) xs) h
  have hset := bnot hset
  obtain ⟨d, hd, h⟩ := bnd h
  obtain ⟨xs, hxs, h⟩ := bnd h
  · unfold moreT
    refine WP.bind (ok sc Γ iter d hd A G s env E _ rm kn se fun v G1 s1 k1 r1 => ?_)
    refine WP.bind (WP.standAt ?_)
    rw [folded_of hset]
    refine WP.bind (WP.pure ?_)
    have se1 := se.ke k1
    have st1 := se1.st
    refine WP.bind (WP.holding (iter_ok rm st1 r1 hxs fun I s2 hI1 hI2 k2 src => ?_))
    have hat := not_tb ha0
    have hacc1 : acc ∈ G1.O := by rw [k1.o]; exact hacc
    have kx : Kx B [] G1 s1 { G1 with O := I :: G1.O } s2 := Kx.own st1 k2 (fun a ha => (List.mem_cons.mp ha).elim (fun q => .inr (q ▸ ⟨hI1, hI2⟩)) .inl) fun a ha => List.mem_cons_of_mem _ ha
    have ow1 := ow.ke k1
    have se2 := se1.k0 kx
    have ow2 : Own B { G1 with O := I :: G1.O } s2 sc env W := ow1.k0 kx fun a ha => List.mem_cons_of_mem _ (ow1.sub a ha)
    have low : ∀ a ∈ G1.O, a ≠ I := fun a ha q => Nat.not_lt.mpr hI1 (q ▸ st1.lt a ha)
    have up2 := kx.up st1 (fun _ h => nomatch h)
    have hl2 : LstAt s2.heap acc items n := lst_kw (lst_kw hl k1 (fun h => nomatch h) hat) k2 (fun h => nomatch h) hat
    have rl2 := (rl.ke se.st k1).up up2
    have hz : s.heap.objs.size ≤ s1.heap.objs.size := k1.sz
    refine WP.bind ⟨@wpAny_runOwn _ _ _ _ _ _ _ _ (compStart_ok h1 src (loop_ok okT hin (hturn I) rm kn (st1.fresh0 hI1) (fun q => low I (ow1.sub I q) rfl) ha0 haW (low acc hacc1) (fun y c hy => ⟨(hc y c hy).1, fun q => ?_, ?_⟩) se2 ow2 List.mem_cons_self (List.mem_cons_of_mem _ hacc1) hl2 rl2 src h hlen
      fun G3 s3 items3 n3 k3 se3 ow3 al3 rl3 => ?_)).w ?_⟩
    · have := (hc y c hy).2
      rw [q] at this
      exact Nat.not_lt.mpr hI1 (Nat.lt_of_lt_of_le this hz)
    · exact Nat.lt_of_lt_of_le (hc y c hy).2 (Nat.le_trans hz k2.sz)
    · show WP B A (pure ()) Q E s3
      have hO3 : G3.O = I :: G1.O := k3.o
      have kx3 : Kx B (acc :: W) G1 s1 G3 s3 := (kx.mono (fun _ h => nomatch h)).trans (Kx.of_kw se2.st k3) fun a ha => by
        rcases List.mem_cons.mp ha with q | q
        · rw [q]; exact .inl List.mem_cons_self
        rcases List.mem_cons.mp q with q | q
        · rw [q]; exact .inr hI1
        · exact .inl (List.mem_cons_of_mem _ q)
      have hsub : ∀ a ∈ G1.O, a ∈ G3.O := fun a ha => by rw [hO3]; exact List.mem_cons_of_mem _ ha
      have stf : St B { G3 with O := G1.O } s3 := se3.st.free hsub st1.sub
      have upf : Up G3 s3.heap { G3 with O := G1.O } s3.heap := Up.free hsub
      exact WP.pure (hQ { G3 with O := G1.O } s3 items3 n3 ((Kw.of_ke k1).trans kx3.kw) (se3.gh stf upf) (ow3.gh fun a ha => ow1.sub a ha) al3 (rl3.up upf))
    · intro q; cases q

theorem drop_get {α : Type} {l r : List α} {x : α} {n : Nat} (h : l.drop n = x :: r) : l[n]? = some x ∧ l.drop (n + 1) = r := by
  constructor
  · have : (l.drop n)[0]? = some x := by rw [h]; rfl
    simpa using this
  · have : (l.drop n).drop 1 = r := by rw [h]; rfl
    simpa [List.drop_drop] using this

theorem inner_ok (ok : OkE B L rec) (okT : OkT B L rec) {W : List Addr} {acc : Addr} {elt : Expr} {gens : List Comprehension} {scope : Scope} {pos : Pos} : ∀ (gs : List Comprehension) (depth : Nat), gens.drop (depth + 1) = gs → (∀ g ∈ gs, g.is_async = 0) →
    ∃ inner, InnerOk B L rec sc elt env W acc gs inner ∧ ∀ target iter ifs I, gens[depth]? = some ⟨target, iter, ifs, 0⟩ →
      compTurn (.ListComp elt gens scope pos) depth (.ref I) (.ref acc) env = turnT (.ListComp elt gens scope pos) depth (.ref I) (.ref acc) target iter ifs inner env
  | [], depth, hd, _ => ⟨emitT (.ref acc) elt env, emit_ok ok, fun target iter ifs I h => compTurn_emit h (by
      have := List.drop_eq_nil_iff.mp hd
      rw [List.getElem?_eq_none_iff]; exact this)⟩
  | ⟨target', iter', ifs', as⟩ :: gs, depth, hd, ha => by
    have : as = 0 := ha ⟨target', iter', ifs', as⟩ List.mem_cons_self
    subst this
    obtain ⟨h1, h2⟩ := drop_get hd
    obtain ⟨inner, hin, ht⟩ := inner_ok ok okT (W := W) (acc := acc) (elt := elt) (scope := scope) (pos := pos) gs (depth + 1) h2 fun g hg => ha g (List.mem_cons_of_mem _ hg)
    exact ⟨moreT (.ListComp elt gens scope pos) depth (.ref acc) iter' env, more_ok ok okT h1 hin fun I => ht target' iter' ifs' I h1, fun target iter ifs I h => compTurn_more h h1⟩

theorem sync_all {gs : List Comprehension} (h : allSync gs = true) (g : Comprehension) (hg : g ∈ gs) : g.is_async = 0 := of_decide_eq_true (List.all_eq_true.mp h g hg)

theorem kind_relabel (scope : Scope) (env : Env) (x : Str) : (relabel scope env).names.lookup x = (look scope.names x).map fun k => if (k == .free && env.scope.kind == .function && env.kindOf x == some .cell) then .cell else k := by
  unfold relabel
  rw [look_eq]
  show List.lookup x (scope.names.map _) = _
  generalize scope.names = l
  induction l with
  | nil => rfl
  | cons p r ih =>
    obtain ⟨n, k⟩ := p
    rw [List.map_cons]
    by_cases hc : (k == NameKind.free && env.scope.kind == .function && env.kindOf n == some .cell) = true
    · show List.lookup x ((if (k == NameKind.free && env.scope.kind == .function && env.kindOf n == some .cell) = true then (n, NameKind.cell) else (n, k)) :: _) = _
      rw [if_pos hc, List.lookup_cons, List.lookup_cons]
      cases hx : x == n with
      | true =>
        have := beq_iff_eq.mp hx; subst this
        show some NameKind.cell = Option.map _ (some k)
        rw [Option.map_some, if_pos hc]
      | false => exact ih
    · show List.lookup x ((if (k == NameKind.free && env.scope.kind == .function && env.kindOf n == some .cell) = true then (n, NameKind.cell) else (n, k)) :: _) = _
      rw [if_neg hc, List.lookup_cons, List.lookup_cons]
      cases hx : x == n with
      | true =>
        have := beq_iff_eq.mp hx; subst this
        show some k = Option.map _ (some k)
        rw [Option.map_some, if_neg hc]
      | false => exact ih
theorem kc_relabel (scope : Scope) (env cenv : Env) (x : Str) : kc (look scope.names x) = kc (Env.kindOf { cenv with scope := relabel scope env } x) := by
  show _ = kc ((relabel scope env).names.lookup x)
  rw [kind_relabel]
  cases look scope.names x with
  | none => rfl
  | some k =>
    show kc (some k) = kc (some (if (k == NameKind.free && env.scope.kind == ScopeKind.function && env.kindOf x == some NameKind.cell) = true then NameKind.cell else k))
    split
    · rename_i h
      have : k = .free := by cases k <;> first | rfl | (simp at h)
      subst this; rfl
    · rfl
theorem freeG_cons {p : Str × NameKind} {r : Kd} : freeG Γ (p :: r) = freeG Γ r ∨ ∃ d, p.2 = .free ∧ look Γ p.1 = some d ∧ freeG Γ (p :: r) = (p.1, d) :: freeG Γ r := by
  unfold freeG
  cases hk : decide (p.2 = .free) with
  | false => exact .inl (List.filterMap_cons_none (by rw [hk]; rfl))
  | true =>
    cases hd : look Γ p.1 with
    | none => exact .inl (List.filterMap_cons_none (by rw [hk, hd]; rfl))
    | some d => exact .inr ⟨d, of_decide_eq_true hk, rfl, List.filterMap_cons_some (by rw [hk, hd]; rfl)⟩
theorem look_freeG {names : Kd} {x : Str} {d : D} (h : look (freeG Γ names) x = some d) : (x, NameKind.free) ∈ names ∧ look Γ x = some d := by
  induction names with
  | nil => exact nsd h
  | cons p r ih =>
    have rest : look (freeG Γ r) x = some d → (x, NameKind.free) ∈ p :: r ∧ look Γ x = some d := fun h => ⟨List.mem_cons_of_mem _ (ih h).1, (ih h).2⟩
    rcases freeG_cons (Γ := Γ) (p := p) (r := r) with e | ⟨d', hk, hd, e⟩
    · rw [e] at h; exact rest h
    · rw [e] at h
      have h : (match strEq x p.1 with | true => some d' | false => look (freeG Γ r) x) = some d := h
      cases hx : strEq x p.1 with
      | true =>
        rw [hx] at h
        rw [strEq_iff.mp hx, ← Option.some.inj h, ← hk]
        exact ⟨List.mem_cons_self, hd⟩
      | false => rw [hx] at h; exact rest h
theorem celAll_mem {names : Kd} {x : Str} (h : celAll sc names = true) (hm : (x, NameKind.free) ∈ names) : kc (look sc x) = .cel := of_decide_eq_true (List.all_eq_true.mp h _ hm)
theorem scopeOk_inv {scope : Scope} (h : scopeOk sc scope = true) : scope.kind = .function ∧ once scope.names = true ∧ celAll sc scope.names = true :=
  have h1 := Bool.and_eq_true_iff.mp h
  have h2 := Bool.and_eq_true_iff.mp h1.2
  ⟨of_decide_eq_true h1.1, h2⟩

theorem compD_inv {P : Prop} {elt : Expr} {g : Comprehension} {gs : List Comprehension} {scope : Scope} {r : D} (h : compD rec sc Γ elt (g :: gs) scope = some r)
    (k : allSync (g :: gs) = true → isSet g.iter = false → scope.kind = .function → once scope.names = true → celAll sc scope.names = true → ∀ d xs out, rec sc Γ g.iter = some d → iterD d = some xs →
      compL (bindN scope.names (freeG Γ scope.names) g.target) (fun Γ' => testsD (rec scope.names Γ') g.ifs) (compI rec scope.names elt gs) xs = some out → out.length ≤ 1000 → D.lst out = r → P) : P := by
  obtain ⟨hc, h⟩ := tst_inv (b := allSync (g :: gs) && (!isSet g.iter && scopeOk sc scope)) h
  obtain ⟨hsync, hc⟩ := Bool.and_eq_true_iff.mp hc
  obtain ⟨hset, hsc⟩ := Bool.and_eq_true_iff.mp hc
  obtain ⟨h1, h2, h3⟩ := scopeOk_inv hsc
  obtain ⟨d, hd, h⟩ := bnd h
  obtain ⟨xs, hxs, h⟩ := bnd h
  obtain ⟨out, hout, h⟩ := bnd h
  obtain ⟨hlen, h⟩ := tst_inv h
  exact k hsync (bnot hset) h1 h2 h3 d xs out hd hxs hout (Nat.le_of_ble_eq_true hlen) (Option.some.inj h)

theorem comp_gen (ok : OkE B L rec) (okT : OkT B L rec) (rm : Room L A) (kn : Kn sc env) (se : Sees B G s env Γ) {elt target iter : Expr} {ifs : List Expr} {gs : List Comprehension} {scope : Scope} {pos pos' : Pos} {use : Option (Value → Sem Unit)} {Q : Value → Shared → Prop}
    (hset : isSet iter = false) (hkind : scope.kind = .function) (honce : once scope.names = true) (hsc : celAll sc scope.names = true) {Γi : Gm} (hi : ∀ y d, look Γi y = some d → look Γ y = some d) {d : D} {xs : List D} (hd : rec sc Γi iter = some d) (hxs : iterD d = some xs)
    {W0 : List Addr} (hW0 : ∀ a ∈ W0, a ∈ G.O) {P : List D → Gh → Shared → Array Value → List D → Prop}
    (hst : ∀ W xs G1 s1 G2 s2 items ds, (∀ b ∈ W, s.heap.objs.size ≤ b) → St B G1 s1 → (∀ b ∈ W, b ∈ G1.O) → P xs G1 s1 items ds → Kw B W G1 s1 G2 s2 → P xs G2 s2 items ds) (h0 : ∀ G1 s1, Kx B [] G s G1 s1 → (∀ a ∈ G.O, a ∈ G1.O) → P xs G1 s1 #[] [])
    (hin : ∀ cv W acc, s.heap.objs.size ≤ acc → s.heap.objs.size ≤ cv.locals → (∀ y c, cv.cells.lookup y = some c → s.heap.objs.size ≤ c ∨ ∃ z, env.cells.lookup z = some c) → (∀ b ∈ W, s.heap.objs.size ≤ b) →
      ∃ inner, (∀ x xs G s items ds, P (x :: xs) G s items ds → Step B L rec scope.names cv W W0 acc target ifs (freeG Γ scope.names) x (P (x :: xs)) (P xs) inner) ∧
        ∀ I, compTurn (.ListComp elt (⟨target, iter, ifs, 0⟩ :: gs) scope pos) 0 (.ref I) (.ref acc) cv = turnT (.ListComp elt (⟨target, iter, ifs, 0⟩ :: gs) scope pos) 0 (.ref I) (.ref acc) target iter ifs inner cv)
    (hP : ∀ G' s' acc C items n out, Kx B W0 G s G' s' → (∀ a ∈ G.O, a ∈ G'.O) → s.heap.objs.size ≤ acc → s.heap.objs.size ≤ C → acc ∈ G'.O → C ∈ G'.O → acc ≠ C → LstAt s'.heap acc items n → RdL G' s'.heap items.toList out → P [] G' s' items out → (∃ m, s'.heap.Ns C m) →
      compPost B.M A E use Q (.ref acc) C (.ok .next) s') :
    WP B A (comprehension (.ListComp elt (⟨target, iter, ifs, 0⟩ :: gs) scope pos) scope env pos' (newList []) false (eval iter env) use) Q E s := by
  have hcell : ∀ x, (x, NameKind.free) ∈ scope.names → ClSee B G s env Γ x := fun x hx =>
    se.cl x (by rw [← kn x]; exact celAll_mem hsc hx)
  refine ⟨@wpAny_comprehension_free _ _ _ _ _ _ _ _ _ _ _ _ _ _ _ rfl (folded_of hset env) (closureFor_ok fun x hx => let ⟨c, q, _, _, _⟩ := hcell x hx; ⟨c, q⟩) hkind (fun x hx hl => ?_) ?_⟩
  · rw [← look_eq]; exact look_of_mem honce (hl ▸ hx)
  refine (ok sc Γi iter d hd A G s env E _ rm kn (se.less hi) fun v G1 s1 k1 r1 => ?_).w
  have se1 := se.ke k1
  have st1 := se1.st
  refine (iter_ok rm st1 r1 hxs fun I s2 hI1 hI2 k2 src => ?_).w
  have st2 := st1.ke k2
  refine wpAny_newObj_type ?_
  have ko : Ke B G1 s2 G1 { s2 with heap := s2.heap.push { cls := .type "list", dict := none, data := .seq ([] : List Value).toArray } } := Ke.push st2 _ (Nat.le_refl _)
  have hl3 : LstAt (s2.heap.push { cls := .type "list", dict := none, data := .seq ([] : List Value).toArray }) s2.heap.objs.size #[] 0 := Heap.get?_push_size _ rfl
  have hsz3 : (s2.heap.push { cls := .type "list", dict := none, data := .seq ([] : List Value).toArray }).objs.size = s2.heap.objs.size + 1 := Heap.size_push ..
  generalize hs3 : ({ s2 with heap := s2.heap.push { cls := .type "list", dict := none, data := .seq ([] : List Value).toArray } } : Shared) = s3 at ko
  have hl3 : LstAt s3.heap s2.heap.objs.size #[] 0 := by rw [← hs3]; exact hl3
  have hsz3 : s3.heap.objs.size = s2.heap.objs.size + 1 := by rw [← hs3]; exact hsz3
  generalize hacc : s2.heap.objs.size = acc at hl3 hsz3
  have k3 : Ke B G1 s1 G1 s3 := k2.trans ko
  have hIacc : I < acc := by rw [← hacc]; exact hI2
  have hz1 : s.heap.objs.size ≤ s1.heap.objs.size := k1.sz
  have kx3 : Kx B [] G1 s1 { G1 with O := acc :: I :: G1.O } s3 := Kx.own st1 k3 (fun a ha => by
    rcases List.mem_cons.mp ha with q | q
    · subst q; exact .inr ⟨Nat.le_trans hI1 (Nat.le_of_lt hIacc), by rw [hsz3]; exact Nat.lt_succ_self _⟩
    rcases List.mem_cons.mp q with q | q
    · subst q; exact .inr ⟨hI1, by rw [hsz3]; exact Nat.lt_succ_of_lt hIacc⟩
    · exact .inl q) fun a ha => List.mem_cons_of_mem _ (List.mem_cons_of_mem _ ha)
  have st3 := kx3.st st1 (fun _ h => nomatch h)
  have up3 := kx3.up st1 (fun _ h => nomatch h)
  have clo : Clo B { G1 with O := acc :: I :: G1.O } s3 scope.names (closOf env.cells scope.names []) (freeG Γ scope.names) := by
    have cl1 : ∀ x, (x, NameKind.free) ∈ scope.names → ClSee B G1 s1 env Γ x := fun x hx =>
      se1.cl x (by rw [← kn x]; exact celAll_mem hsc hx)
    refine ⟨fun x c hx => ?_, fun x c hx => ?_, fun x hx => ?_, fun x d hx => (look_freeG hx).1⟩
    · obtain ⟨h1, rfl⟩ := closOf_mem hx
      obtain ⟨c', h2, _, h3, _⟩ := cl1 x h1
      rw [h2]; exact Nat.lt_of_lt_of_le h3 k3.sz
    · obtain ⟨h1, rfl⟩ := closOf_mem (mem_of_lookup hx)
      obtain ⟨c', h2, h3, _⟩ := cl1 x h1
      rw [h2]; exact h3
    · obtain ⟨c', h2, _, _, h3⟩ := cl1 x hx
      refine ⟨c', by rw [closOf_some hx, h2]; rfl, fun d hxd => ?_⟩
      obtain ⟨v, hv, rv⟩ := h3 d (look_freeG hxd).2
      exact ⟨v, k3.kp.cell (fun q => by
        have : c' ∈ B.tb := by simpa using q
        obtain ⟨vs, e⟩ := st1.tg.some this
        obtain ⟨o, e2, e3⟩ := hv
        rw [e] at e2; cases e2; cases e3) hv, rv.up up3⟩
  rw [se.glob]
  refine (enter_ok (Γ := freeG Γ scope.names) (binds := []) (ds := []) (around := some env) hkind honce st3 clo (fun _ h => nomatch h) .nil se.blt fun cenv G4 s4 hcenv kx4 hG4 se4 ow4 hW4 => ?_).w
  have hcells : cenv.cells = cellsFrom (s3.heap.objs.size + 1) scope.names [] ++ closOf env.cells scope.names [] := by rw [hcenv, newEnv_cells, cellsFrom_acc]
  have hlocals : cenv.locals = s3.heap.objs.size := by rw [hcenv, newEnv_locals]
  have hscope : cenv.scope = scope := by rw [hcenv, newEnv_scope]
  have hkindOf : ∀ x, cenv.kindOf x = look scope.names x := fun x => by unfold Env.kindOf; rw [hscope, look_eq]
  clear hcenv
  generalize hcv : ({ cenv with scope := relabel scope env } : Env) = cv
  have hk4 : ∀ x, cv.kindOf x = (look scope.names x).map fun k => if (k == .free && env.scope.kind == .function && env.kindOf x == some .cell) then .cell else k := fun x => by
    rw [← hcv]; exact kind_relabel scope env x
  have kn4 : Kn scope.names cv := fun x => by rw [← hcv]; exact kc_relabel scope env cenv x
  have se5 : Sees B G4 s4 cv (freeG Γ scope.names) := by
    refine ⟨se4.st, by rw [← hcv]; exact hkind, by rw [← hcv]; exact se4.glob, by rw [← hcv]; exact se4.blt, by rw [← hcv]; exact se4.lo, ?_, fun x hx => ?_⟩
    · obtain ⟨m, hm, hd⟩ := se4.ns
      refine ⟨m, by rw [← hcv]; exact hm, fun x d hx hl => ?_⟩
      exact absurd hl (by
        rw [hk4, look_of_mem honce (look_freeG hx).1]
        simp only [Option.map_some]
        split <;> simp)
    · rw [← kn4 x, ← hkindOf x] at hx
      obtain ⟨c, h1, h2, h3, h4⟩ := se4.cl x hx
      exact ⟨c, by rw [← hcv]; exact h1, h2, h3, h4⟩
  have ow5 : Own B G4 s4 scope.names cv (newW s3 scope.names) := by
    refine ⟨ow4.sub, ow4.new, by rw [← hcv]; exact ow4.loc, fun x hx => by rw [hk4, hx]; rfl, fun x hx => ⟨by rw [hk4, hx]; rfl, ?_⟩⟩
    obtain ⟨_, c, v', h1, h2⟩ := ow4.cel x hx
    exact ⟨c, v', by rw [← hcv]; exact h1, by rw [← hcv]; exact h2⟩
  have hcvc : cv.cells = cenv.cells := by rw [← hcv]
  have hcvl : cv.locals = cenv.locals := by rw [← hcv]
  have hWge : ∀ a ∈ newW s3 scope.names, s3.heap.objs.size ≤ a := fun a ha => (hW4 a ha).1
  have hIs3 : I < s3.heap.objs.size := by rw [hsz3]; exact Nat.lt_succ_of_lt hIacc
  have hAs3 : acc < s3.heap.objs.size := by rw [hsz3]; exact Nat.lt_succ_self _
  have hI4 : I ∈ G4.O := by rw [hG4]; exact List.mem_append_right _ (List.mem_cons_of_mem _ List.mem_cons_self)
  have hA4 : acc ∈ G4.O := by rw [hG4]; exact List.mem_append_right _ List.mem_cons_self
  have srcI : Src B A I { G1 with O := acc :: I :: G1.O } s3 xs := by
    have stI : St B { G1 with O := I :: G1.O } s2 := (Kx.own (W := []) st1 k2 (fun a ha => (List.mem_cons.mp ha).elim (fun q => .inr (q ▸ ⟨hI1, hI2⟩)) .inl) fun a ha => List.mem_cons_of_mem _ ha).st st1 (fun _ h => nomatch h)
    have kI : Ke B { G1 with O := I :: G1.O } s2 { G1 with O := I :: G1.O } s3 := ⟨ko.same, ko.kp, ko.tg, ko.cd, ko.sz, rfl, ko.n, ko.τ, ko.tk⟩
    exact src.kx (Kx.own (W := []) stI kI (O' := acc :: I :: G1.O) (fun a ha => (List.mem_cons.mp ha).elim (fun q => .inr (q ▸ ⟨Nat.le_of_eq hacc, hAs3⟩)) .inl) fun a ha => List.mem_cons_of_mem _ ha) stI (fun _ h => nomatch h) (fun h => nomatch h) (not_tb (st1.fresh0 hI1))
  have src4 := srcI.kx kx4 st3 (fun _ h => nomatch h) (fun h => nomatch h) (not_tb (st1.fresh0 hI1))
  have ha0 : B.h0.get? acc = none := st1.fresh0 (Nat.le_trans hI1 (Nat.le_of_lt hIacc))
  have hl4 : LstAt s4.heap acc #[] 0 := kx4.kw.kp acc _ (fun q => not_tb ha0 (by simpa using q)) hl3
  have hzs : s.heap.objs.size ≤ s3.heap.objs.size := Nat.le_trans hz1 k3.sz
  have hWs : ∀ b ∈ newW s3 scope.names, s.heap.objs.size ≤ b := fun b hb => Nat.le_trans hzs (hWge b hb)
  have hcl : ∀ y c, cv.cells.lookup y = some c → c ∈ newW s3 scope.names ∨ ((closOf env.cells scope.names []).lookup y = some c) := fun y c hy => by
    rw [hcvc, hcells, List.lookup_append] at hy
    cases e : (cellsFrom (s3.heap.objs.size + 1) scope.names []).lookup y with
    | some c' => rw [e] at hy; exact .inl (List.mem_cons_of_mem _ (lookup_mem (by rw [e]; exact hy)))
    | none => rw [e] at hy; exact .inr (by simpa using hy)
  have hclo : ∀ y c, (closOf env.cells scope.names []).lookup y = some c → env.cells.lookup y = some c ∧ c < s1.heap.objs.size := fun y c hy => by
    obtain ⟨h1, h2⟩ := closOf_mem (mem_of_lookup hy)
    obtain ⟨c', h3, _, h4, _⟩ := hcell y h1
    have : c = c' := by rw [h2, h3]; rfl
    subst this
    exact ⟨h3, Nat.lt_of_lt_of_le h4 hz1⟩
  have hIs : s.heap.objs.size ≤ I := Nat.le_trans hz1 hI1
  have hAs : s.heap.objs.size ≤ acc := Nat.le_trans hIs (Nat.le_of_lt hIacc)
  have kx14 : Kx B [] G s G4 s4 := ((Kx.of_ke se.st k1).trans kx3 (fun _ h => nomatch h)).trans kx4 (fun _ h => nomatch h)
  have hsub4 : ∀ a ∈ G.O, a ∈ G4.O := fun a ha => by rw [hG4, k1.o]; exact List.mem_append_right _ (List.mem_cons_of_mem _ (List.mem_cons_of_mem _ ha))
  obtain ⟨inner, hin, hturn⟩ := hin cv (newW s3 scope.names) acc hAs (by rw [hcvl, hlocals]; exact hzs) (fun y c hy => (hcl y c hy).imp (hWs c) fun q => ⟨y, (hclo y c q).1⟩) hWs
  refine (compStart_ok rfl src4 (loop_gen (P := P) (W0 := W0) okT (fun xs G1 s1 G2 s2 items ds => hst _ xs G1 s1 G2 s2 items ds fun b hb => (List.mem_cons.mp hb).elim (fun q => q ▸ hIs) (hWs b)) hin (hturn I) rm kn4 (st1.fresh0 hI1) (fun q => Nat.not_lt.mpr (hWge I q) hIs3) (fun q => Nat.not_lt.mpr hIs (se.st.lt I (hW0 I q))) (fun a ha => hsub4 a (hW0 a ha)) ha0 (fun q => Nat.not_lt.mpr (hWge acc q) hAs3) (Nat.ne_of_gt hIacc) (fun y c hy => ?_) se5 ow5 hI4 hA4 hl4 .nil src4 (h0 G4 s4 kx14 hsub4)
    fun G6 s6 items6 n6 ds6 k6 se6 ow6 al6 rl6 p6 => ?_)).w
  · rcases hcl y c hy with hm | hy'
    · have hge := hWge c hm
      exact ⟨fun q => Nat.not_lt.mpr hge (q ▸ hAs3), fun q => Nat.not_lt.mpr hge (q ▸ hIs3), (hW4 c hm).2⟩
    · have hlt := (hclo y c hy').2
      exact ⟨fun q => Nat.not_lt.mpr (Nat.le_trans hI1 (Nat.le_of_lt hIacc)) (q ▸ hlt), fun q => Nat.not_lt.mpr hI1 (q ▸ hlt), Nat.lt_of_lt_of_le hlt (Nat.le_trans k3.sz kx4.sz)⟩
  · have hO6 : G6.O = newW s3 scope.names ++ acc :: I :: G1.O := by rw [k6.o, hG4]
    have kxa : Kx B W0 G s G6 s6 := by
      refine (kx14.mono fun _ h => nomatch h).trans (Kx.of_kw se5.st k6) fun a ha => ?_
      rcases List.mem_cons.mp ha with q | q
      · rw [q]; exact .inr hAs
      rcases List.mem_cons.mp q with q | q
      · rw [q]; exact .inr hIs
      · exact (List.mem_append.mp q).imp id (hWs a)
    refine hP G6 s6 acc cenv.locals items6 n6 ds6 kxa (fun a ha => k6.o ▸ hsub4 a ha) hAs ?_ ?_ ?_ ?_ al6 rl6 p6 ?_
    · rw [hlocals]; exact hzs
    · rw [hO6]; exact List.mem_append_right _ List.mem_cons_self
    · rw [hO6, hlocals]; exact List.mem_append_left _ List.mem_cons_self
    · rw [hlocals]; exact Nat.ne_of_lt hAs3
    · obtain ⟨m, hm, _⟩ := se6.ns
      exact ⟨m, by rw [← hcvl]; exact hm⟩
theorem comp_core (ok : OkE B L rec) (okT : OkT B L rec) (rm : Room L A) (kn : Kn sc env) (se : Sees B G s env Γ) {elt : Expr} {g : Comprehension} {gs : List Comprehension} {scope : Scope} {pos pos' : Pos} {out : List D} {use : Option (Value → Sem Unit)} {Q : Value → Shared → Prop}
    (h : compD rec sc Γ elt (g :: gs) scope = some (.lst out))
    (hP : ∀ G' s' acc C items n, Kx B [] G s G' s' → (∀ a ∈ G.O, a ∈ G'.O) → s.heap.objs.size ≤ acc → s.heap.objs.size ≤ C → acc ∈ G'.O → C ∈ G'.O → acc ≠ C → LstAt s'.heap acc items n → RdL G' s'.heap items.toList out → (∃ m, s'.heap.Ns C m) →
      compPost B.M A E use Q (.ref acc) C (.ok .next) s') :
    WP B A (comprehension (.ListComp elt (g :: gs) scope pos) scope env pos' (newList []) false (eval g.iter env) use) Q E s := by
  refine compD_inv h fun hsync hset hkind honce hsc d xs out' hd hxs hout hlen hr => ?_
  have hr := (D.lst.inj hr).symm
  subst hr
  obtain ⟨target, iter, ifs, as⟩ := g
  have hall := sync_all hsync
  have : as = 0 := hall _ List.mem_cons_self
  subst this
  refine comp_gen (W0 := []) (P := CP0 rec scope.names elt gs target ifs (freeG Γ scope.names) out) ok okT rm kn se hset hkind honce hsc (fun _ _ h => h) hd hxs (fun _ h => nomatch h) (fun _ _ _ _ _ _ _ _ _ _ _ p _ => p) (fun _ _ _ _ => ⟨out, hout, rfl⟩) (fun cv W acc _ _ _ _ => ?_) fun G' s' acc C items n o kx hs h1 h2 h3 h4 h5 hl rl p hns => ?_
  · obtain ⟨inner, hin, hturn⟩ := inner_ok (sc := scope.names) (env := cv) ok okT (W := W) (acc := acc) (elt := elt) (gens := ⟨target, iter, ifs, 0⟩ :: gs) (scope := scope) (pos := pos) gs 0 rfl fun g hg => hall g (List.mem_cons_of_mem _ hg)
    exact ⟨inner, step0 hin hlen, fun I => hturn target iter ifs I rfl⟩
  · obtain ⟨o', ho, he⟩ := p
    rw [← Option.some.inj ho, List.append_nil] at he
    exact hP G' s' acc C items n kx hs h1 h2 h3 h4 h5 hl (he ▸ rl) hns
end
end Mine

end
section
open PySem PySem.W PyProof.Rows
set_option Elab.async false
namespace Mine

section
variable {B : Bs} {A : Around} {G : Gh} {s : Shared} {Γ : Gm} {sc : Kd} {env : Env} {E : Value → Shared → Prop} {L : Nat} {X : Nv} {rec : Ev}

theorem compD_lst {elt : Expr} {gens : List Comprehension} {scope : Scope} {d : D} (h : compD rec sc Γ elt gens scope = some d) : ∃ g gs out, gens = g :: gs ∧ d = .lst out ∧ g.is_async = 0 := by
  cases gens with
  | nil => exact nsd h
  | cons g gs => exact compD_inv h fun hs _ _ _ _ _ _ out _ _ _ _ hr => ⟨g, gs, out, rfl, hr.symm, sync_all hs g List.mem_cons_self⟩

theorem comp_ok (ok : OkE B L rec) (okT : OkT B L rec) (rm : Room L A) (kn : Kn sc env) (se : Sees B G s env Γ) {elt : Expr} {gens : List Comprehension} {scope : Scope} {pos : Pos} {d : D} {Q : Value → Shared → Prop}
    (h : compD rec sc Γ elt gens scope = some d) (hQ : Post B G s d Q) : WP B A (eval (.ListComp elt gens scope pos) env) Q E s := by
  obtain ⟨g, gs, out, rfl, rfl, has⟩ := compD_lst h
  rw [eval_ListComp]
  have hfa : firstAsync (g :: gs) = false := by
    obtain ⟨a, b, c, e⟩ := g
    have : e = 0 := has
    subst this; rfl
  rw [hfa]
  obtain ⟨target, iter, ifs, as⟩ := g
  refine comp_core (g := ⟨target, iter, ifs, as⟩) (use := none) ok okT rm kn se h fun G1 s1 acc C items n kx hsub hacc hC haO hCO hne hl rl hns => ?_
  obtain ⟨m, hm⟩ := hns
  refine ⟨m, hm, fun h' hs' => ?_⟩
  have st1 := kx.st se.st (fun _ h => nomatch h)
  have hCt : C ∉ B.tb := not_tb (se.st.fresh0 hC)
  have k2 : Kw B [C] G1 s1 G1 { s1 with heap := h' } := Kw.same1 st1 (List.mem_singleton.mpr rfl) hCt hs' (Nat.le_refl _) (.ns hm)
  have kx2 : Kx B [] G s G1 { s1 with heap := h' } := kx.trans (Kx.of_kw st1 k2) fun a ha => .inr (by rw [List.mem_singleton.mp ha]; exact hC)
  have up2 := k2.up st1 (fun a ha => by rw [List.mem_singleton.mp ha]; exact hCO)
  refine hQ (.ref acc) { G1 with O := G.O } _ kx2.kw (.lst (n := n) (se.st.fresh hacc) ?_ ((rl.up up2).up (Up.free hsub)))
  exact lst_kw hl k2 (fun q => hne (List.mem_singleton.mp q)) (not_tb (se.st.fresh0 hacc))

theorem evE1_ok (nv : NvOk B L X) (ok : OkE B L rec) (okT : OkT B L rec) : OkE B L (evE1 X rec) := by
  intro sc Γ e d h A G s env E Q rm kn se hQ
  cases e <;> first | exact nsd h | (unfold evE1 at h; dsimp only at h)
  case BoolOp op es pos => exact boolD_ok ok rm kn h se hQ
  case BinOp l op r pos =>
    split at h
    · first | exact nsd h | exact nft h | exact ntf h | cases h
    rename_i a ha
    split at h
    · first | exact nsd h | exact nft h | exact ntf h | cases h
    rename_i b hb
    refine ⟨@wpAny_BinOp _ _ _ _ _ _ _ _ _ _ (ok sc Γ l a ha A G s env E _ rm kn se fun v G1 s1 k1 r1 => (ok sc Γ r b hb A G1 s1 env E _ rm kn (se.ke k1) fun w G2 s2 k2 r2 => ?_).w).w⟩
    exact (binop_ok ((se.st.ke k1).ke k2) (r1.ke (se.st.ke k1) k2) r2 h (hQ.after (k1.trans k2))).w
  case UnaryOp op x pos =>
    split at h
    · first | exact nsd h | exact nft h | exact ntf h | cases h
    rename_i a ha
    refine ⟨@wpAny_UnaryOp _ _ _ _ _ _ _ _ _ (ok sc Γ x a ha A G s env E _ rm kn se fun v G1 s1 k1 r1 => ?_).w⟩
    exact (unop_ok (se.st.ke k1) r1 h (hQ.after k1)).w
  case IfExp t b o pos =>
    split at h
    · first | exact nsd h | exact nft h | exact ntf h | cases h
    rename_i c hc
    split at h
    · first | exact nsd h | exact nft h | exact ntf h | cases h
    · rename_i ht
      refine ⟨@wpAny_IfExp _ _ _ _ _ _ _ _ _ _ (okT sc Γ t c true hc ht A G s env E _ rm kn se fun G1 s1 k1 => ?_).w⟩
      exact (ok sc Γ b d h A G1 s1 env E Q rm kn (se.ke k1) (hQ.after k1)).w
    · rename_i ht
      refine ⟨@wpAny_IfExp _ _ _ _ _ _ _ _ _ _ (okT sc Γ t c false hc ht A G s env E _ rm kn se fun G1 s1 k1 => ?_).w⟩
      exact (ok sc Γ o d h A G1 s1 env E Q rm kn (se.ke k1) (hQ.after k1)).w
  case ListComp elt gens scope pos => exact comp_ok ok okT rm kn se h hQ
  case Compare l ops rs pos =>
    split at h
    · first | exact nsd h | exact nft h | exact ntf h | cases h
    rename_i hm
    split at h
    · first | exact nsd h | exact nft h | exact ntf h | cases h
    rename_i a ha
    exact (cmp_ok ok rm kn se hm ha h).1 hQ
  case Call f args kws pos =>
    cases kws with
    | nil => exact callD_ok nv ok rm kn se h hQ
    | cons _ _ => exact callK_ok nv ok rm kn se h hQ
  case Attribute o m pos =>
    split at h
    · first | exact nsd h | exact nft h | exact ntf h | cases h
    rename_i hn
    split at h
    · first | exact nsd h | exact nft h | exact ntf h | cases h
    rename_i d' hd
    cases o <;> first | exact nft hn | skip
    exact ⟨@Attribute_name _ _ _ _ _ _ _ _ _ _ (ok sc Γ _ d' hd A G s env E _ rm kn se fun v G1 s1 k1 r1 => (nv.a m d' d h A G1 s1 E Q v true (se.st.ke k1) r1 (hQ.after k1)).w).w⟩
  case Constant c k pos => exact const_ok se.st h hQ
  case Subscript v i pos => exact subD_ok ok rm kn se h hQ
  case Name x pos => exact name_ok nv kn se h hQ
  case List es pos =>
    split at h
    · first | exact nsd h | exact nft h | exact ntf h | cases h
    rename_i ds hds
    split at h
    · rename_i hl
      cases h
      have hl := Nat.le_of_ble_eq_true hl
      refine ⟨@wpAny_List_spliced _ _ _ _ _ _ _ _ _ (each_ok ok rm kn hds se fun vs G1 s1 k1 r1 => ⟨?_, ?_⟩).w⟩
      · rw [r1.length, sizeLine_eq]; omega
      · exact Post.newL (hQ.after k1) (se.st.ke k1) (by simpa using r1)
    · first | exact nsd h | exact nft h | exact ntf h | cases h
  case Tuple es k pos =>
    split at h
    · first | exact nsd h | exact nft h | exact ntf h | cases h
    rename_i ds hds
    split at h
    · rename_i hl
      cases h
      have hl := Nat.le_of_ble_eq_true hl
      refine ⟨@wpAny_Tuple_spliced _ _ _ _ _ _ _ _ _ _ (each_ok ok rm kn hds se fun vs G1 s1 k1 r1 => ⟨?_, ?_⟩).w⟩
      · rw [r1.length, sizeLine_eq]; omega
      · exact Post.newT (hQ.after k1) (se.st.ke k1) (by simpa using r1)
    · first | exact nsd h | exact nft h | exact ntf h | cases h

theorem plain_test (okE1 : OkE B L (evE1 X rec)) {e : Expr} {d : D} {b : Bool} {Q : Bool → Shared → Prop} (h : evE1 X rec sc Γ e = some d) (hb : truth d = some b) (rm : Room L A) (kn : Kn sc env) (se : Sees B G s env Γ) (hQ : ∀ G' s', Ke B G s G' s' → Q b s')
    (he : isTrue e env (eval e env) = (do let v ← eval e env; standAt e.pos; holding [v] (truthy v))) : WP B A (isTrue e env (eval e env)) Q E s := by
  rw [he]
  refine WP.bind (okE1 sc Γ e d h A G s env E _ rm kn se fun v G1 s1 k1 r1 => WP.bind (WP.standAt (WP.holding ?_)))
  exact truthy_ok (se.st.ke k1) r1 hb fun G2 s2 k2 => hQ G2 s2 (k1.trans k2)

theorem evE1_okT (nv : NvOk B L X) (ok : OkE B L rec) (okT : OkT B L rec) : OkT B L (evE1 X rec) := by
  intro sc Γ e d b h hb A G s env E Q rm kn se hQ
  have ok1 := evE1_ok nv ok okT
  cases e
  case BoolOp op es pos => exact boolT_ok okT rm kn h hb se hQ
  case IfExp t bo o pos =>
    unfold evE1 at h; dsimp only at h
    split at h
    · first | exact nsd h | exact nft h | exact ntf h | cases h
    rename_i c hc
    split at h
    · first | exact nsd h | exact nft h | exact ntf h | cases h
    · rename_i ht
      refine ⟨@PyProof.Rows.isTrue_IfExp _ _ _ _ _ _ _ _ _ _ _ (okT sc Γ t c true hc ht A G s env E _ rm kn se fun G1 s1 k1 => ?_).w⟩
      exact (okT sc Γ bo d b h hb A G1 s1 env E Q rm kn (se.ke k1) fun G2 s2 k2 => hQ G2 s2 (k1.trans k2)).w
    · rename_i ht
      refine ⟨@PyProof.Rows.isTrue_IfExp _ _ _ _ _ _ _ _ _ _ _ (okT sc Γ t c false hc ht A G s env E _ rm kn se fun G1 s1 k1 => ?_).w⟩
      exact (okT sc Γ o d b h hb A G1 s1 env E Q rm kn (se.ke k1) fun G2 s2 k2 => hQ G2 s2 (k1.trans k2)).w
  case Compare l ops rs pos =>
    unfold evE1 at h; dsimp only at h
    split at h
    · first | exact nsd h | exact nft h | exact ntf h | cases h
    rename_i hm
    split at h
    · first | exact nsd h | exact nft h | exact ntf h | cases h
    rename_i a ha
    exact (cmp_ok ok rm kn se hm ha h).2 hb hQ
  case UnaryOp op x pos =>
    cases op
    case Not =>
      unfold evE1 at h; dsimp only at h
      split at h
      · first | exact nsd h | exact nft h | exact ntf h | cases h
      rename_i a ha
      obtain ⟨t, ht, h⟩ := map_inv h
      · cases h; cases hb
        exact ⟨@PyProof.Rows.isTrue_not _ _ _ _ _ _ _ _ _ (okT sc Γ x a t ha ht A G s env E _ rm kn se fun G1 s1 k1 => hQ G1 s1 k1).w⟩
    all_goals exact plain_test ok1 h hb rm kn se hQ rfl
  all_goals exact plain_test ok1 h hb rm kn se hQ rfl

theorem evE_ok (nv : NvOk B L X) : ∀ n, OkE B L (evE X n) ∧ OkT B L (evE X n)
  | 0 => ⟨fun _ _ _ _ h => (nomatch h), fun _ _ _ _ _ h => (nomatch h)⟩
  | n + 1 => by
    obtain ⟨h1, h2⟩ := evE_ok nv n
    rw [evE_succ]
    exact ⟨evE1_ok nv h1 h2, evE1_okT nv h1 h2⟩
end
end Mine

end
section
open PySem PySem.W PyProof.Rows
set_option Elab.async false
namespace Mine

set_option genCtorIdx true in
inductive OD where
  | lst (ds : List D)
  | grid (rows : List (List D))
  | hdr (C : Addr) (xs : List D)
noncomputable abbrev Om := List (Str × OD)
noncomputable def frzD : OD → D
  | .lst ds => .lst ds
  | .grid rows => .lst (rows.map D.lst)
  | .hdr C xs => .hdr C xs
noncomputable def del {α : Type} : List (Str × α) → Str → List (Str × α)
  | [], _ => []
  | (y, o) :: r, x => match strEq x y with
    | true => del r x
    | false => (y, o) :: del r x
noncomputable def putA {α : Type} : List (Str × α) → Str → α → List (Str × α)
  | [], x, d => [(x, d)]
  | (y, e) :: r, x, d => match strEq x y with
    | true => (y, d) :: r
    | false => (y, e) :: putA r x d
noncomputable def frz (Γ : Gm) : Om → Gm
  | [] => Γ
  | (x, o) :: r => put (frz Γ r) x (frzD o)
set_option genCtorIdx true in
inductive Fl where
  | nxt | brk | cnt
  | ret (d : D)
noncomputable abbrev Rs := Fl × Gm × Om
structure Hk where
  S : Kd → Gm → Om → Stmt → Option Rs

theorem look_del {α : Type} : ∀ (l : List (Str × α)) (x y : Str), look (del l x) y = if y = x then none else look l y
  | [], x, y => by simp [del, look]
  | (z, o) :: r, x, y => by
    unfold del
    cases h : strEq x z with
    | true =>
      have hz := strEq_iff.mp h; subst hz
      simp only
      rw [look_del r x y]
      by_cases hy : y = x
      · simp [hy]
      · rw [if_neg hy, if_neg hy]
        have : strEq y x = false := by cases q : strEq y x with | true => exact absurd (strEq_iff.mp q) hy | false => rfl
        simp only [look, this]
    | false =>
      simp only [look]
      cases h2 : strEq y z with
      | true =>
        have hz := strEq_iff.mp h2; subst hz
        have : y ≠ x := fun e => by rw [e, strEq_iff.mpr rfl] at h; cases h
        simp [this]
      | false => simp only [look_del r x y]
theorem look_putA {α : Type} : ∀ (Γ : List (Str × α)) (x y : Str) (d : α), look (putA Γ x d) y = if y = x then some d else look Γ y
  | [], x, y, d => by
    simp only [putA, look]
    cases h : strEq y x with
    | true => have := strEq_iff.mp h; simp [this]
    | false => have : y ≠ x := fun e => by rw [strEq_iff.mpr e] at h; cases h
               simp [this]
  | (z, e) :: r, x, y, d => by
    simp only [putA]
    cases h : strEq x z with
    | true =>
      have hz := strEq_iff.mp h; subst hz
      simp only [look]
      cases h2 : strEq y x with
      | true => simp [strEq_iff.mp h2]
      | false => have : y ≠ x := fun e => by rw [strEq_iff.mpr e] at h2; cases h2
                 simp [this]
    | false =>
      have hz : x ≠ z := fun e => by rw [strEq_iff.mpr e] at h; cases h
      simp only [look]
      cases h2 : strEq y z with
      | true => have := strEq_iff.mp h2; subst this; simp [Ne.symm hz]
      | false => simp only [look_putA r x y d]
theorem look_frz : ∀ (Ω : Om) (Γ : Gm) (x : Str), look (frz Γ Ω) x = match look Ω x with | some o => some (frzD o) | none => look Γ x
  | [], Γ, x => rfl
  | (y, o) :: r, Γ, x => by
    simp only [frz, look_put, look]
    cases h : strEq x y with
    | true => simp [strEq_iff.mp h]
    | false =>
      have : x ≠ y := fun e => by rw [strEq_iff.mpr e] at h; cases h
      rw [if_neg this, look_frz r Γ x]

inductive RowsAt (G : Gh) (h : Heap) : List Addr → List (List D) → Prop
  | nil : RowsAt G h [] []
  | cons {a : Addr} {items : Array Value} {n : Nat} {ds : List D} {as : List Addr} {rows : List (List D)} : LstAt h a items n → RdL G h items.toList ds → RowsAt G h as rows → RowsAt G h (a :: as) (ds :: rows)
inductive OdAt (G : Gh) (h : Heap) : Addr → List Addr → OD → Prop
  | lst {a : Addr} {items : Array Value} {n : Nat} {ds : List D} : LstAt h a items n → RdL G h items.toList ds → OdAt G h a [a] (.lst ds)
  | grid {a : Addr} {as : List Addr} {n : Nat} {rows : List (List D)} : (a :: as).Nodup → LstAt h a (as.map Value.ref).toArray n → RowsAt G h as rows → OdAt G h a (a :: as) (.grid rows)
  | hdr {a dx l C : Addr} {items : Array Value} {n : Nat} {ds : List D} : h.get? a = some ({ cls := .ref C, dict := some dx, data := .plain } : Obj) → dx ≠ a →
      h.Ns1 dx (fun x => if x = ("_headers" : Str) then some (.ref l) else none) → LstAt h l items n → RdL G h items.toList ds → OdAt G h a [a, dx, l] (.hdr C ds)

noncomputable def OdInv (G : Gh) (h : Heap) (a : Addr) (as : List Addr) : OD → Prop
  | .lst ds => ∃ items n, as = [a] ∧ LstAt h a items n ∧ RdL G h items.toList ds
  | .grid rows => ∃ rs n, as = a :: rs ∧ (a :: rs).Nodup ∧ LstAt h a (rs.map Value.ref).toArray n ∧ RowsAt G h rs rows
  | .hdr C xs => ∃ dx l items n, as = [a, dx, l] ∧ h.get? a = some ({ cls := .ref C, dict := some dx, data := .plain } : Obj) ∧ dx ≠ a ∧ h.Ns1 dx (fun x => if x = ("_headers" : Str) then some (.ref l) else none) ∧ LstAt h l items n ∧ RdL G h items.toList xs
theorem OdAt.inv {G : Gh} {h : Heap} {a : Addr} {as : List Addr} {o : OD} (x : OdAt G h a as o) : OdInv G h a as o := by
  cases x with
  | lst l r => exact ⟨_, _, rfl, l, r⟩
  | grid nd l r => exact ⟨_, _, rfl, nd, l, r⟩
  | hdr h1 h2 h3 h4 h5 => exact ⟨_, _, _, _, rfl, h1, h2, h3, h4, h5⟩
theorem OdAt.lstI {G : Gh} {h : Heap} {a : Addr} {as : List Addr} {ds : List D} (x : OdAt G h a as (.lst ds)) : ∃ items n, as = [a] ∧ LstAt h a items n ∧ RdL G h items.toList ds := x.inv
theorem Sees.know {B : Bs} {G : Gh} {s : Shared} {env : Env} {Γ : Gm} {x : Str} {a : Addr} {d : D} (se : Sees B G s env Γ) (hx : look Γ x = some (.ref a)) (r : Rd G s.heap (.ref a) d) : Sees B G s env (put Γ x d) := by
  have key : ∀ y e, look (put Γ x d) y = some e → ∃ d', look Γ y = some d' ∧ ∀ v, Rd G s.heap v d' → Rd G s.heap v e := fun y e hy => by
    rw [look_put] at hy
    by_cases hyx : y = x
    · rw [if_pos hyx] at hy
      refine ⟨_, hyx ▸ hx, fun v q => ?_⟩
      rw [show v = .ref a from q.refK rfl, ← Option.some.inj hy]; exact r
    · rw [if_neg hyx] at hy
      exact ⟨e, hy, fun _ q => q⟩
  refine ⟨se.st, se.kind, se.glob, se.blt, se.lo, ?_, fun y hy => ?_⟩
  · obtain ⟨m, hm, hdd⟩ := se.ns
    refine ⟨m, hm, fun y e hy hk => ?_⟩
    obtain ⟨d', h1, h2⟩ := key y e hy
    obtain ⟨v, hv, q⟩ := hdd y d' h1 hk
    exact ⟨v, hv, h2 v q⟩
  · obtain ⟨c, hc, hct, hcz, hdd⟩ := se.cl y hy
    refine ⟨c, hc, hct, hcz, fun e hye => ?_⟩
    obtain ⟨d', h1, h2⟩ := key y e hye
    obtain ⟨v, hv, q⟩ := hdd d' h1
    exact ⟨v, hv, h2 v q⟩
theorem Rd.refI {G : Gh} {h : Heap} {v : Value} {a : Addr} (r : Rd G h v (.ref a)) : v = .ref a := r.refK rfl
theorem RowsAt.up {G G' : Gh} {h h' : Heap} (u : Up G h G' h') : ∀ {as : List Addr} {rows : List (List D)}, RowsAt G h as rows → (∀ a ∈ as, ∀ o, h.get? a = some o → h'.get? a = some o) → RowsAt G' h' as rows := fun x => by
  induction x with
  | nil => exact fun _ => .nil
  | cons l r t ih => exact fun k => .cons (k _ List.mem_cons_self _ l) (r.up u) (ih fun a ha => k a (List.mem_cons_of_mem _ ha))
theorem OdAt.up {G G' : Gh} {h h' : Heap} (u : Up G h G' h') {a : Addr} {as : List Addr} {o : OD} (x : OdAt G h a as o) (k : ∀ a ∈ as, ∀ o, h.get? a = some o → h'.get? a = some o) : OdAt G' h' a as o := by
  cases x with
  | lst l r => exact .lst (k _ List.mem_cons_self _ l) (r.up u)
  | grid nd l r => exact .grid nd (k _ List.mem_cons_self _ l) (r.up u fun a ha => k a (List.mem_cons_of_mem _ ha))
  | hdr e1 hne hn hl hd =>
    refine .hdr (k _ List.mem_cons_self _ e1) hne ?_ (k _ (List.mem_cons_of_mem _ (List.mem_cons_of_mem _ List.mem_cons_self)) _ hl) (hd.up u)
    obtain ⟨o, es, ep, e, q⟩ := hn
    exact ⟨o, es, ep, k _ (List.mem_cons_of_mem _ List.mem_cons_self) _ e, q⟩
theorem RowsAt.rd {G : Gh} {h : Heap} : ∀ {as : List Addr} {rows : List (List D)}, RowsAt G h as rows → (∀ a ∈ as, a ∉ G.O) → RdL G h (as.map Value.ref) (rows.map D.lst) := fun x => by
  induction x with
  | nil => exact fun _ => .nil
  | cons l r t ih => exact fun k => .cons (.lst (k _ List.mem_cons_self) l r) (ih fun a ha => k a (List.mem_cons_of_mem _ ha))
theorem OdAt.rd {G : Gh} {h : Heap} {a : Addr} {as : List Addr} {o : OD} (x : OdAt G h a as o) (k : ∀ a ∈ as, a ∉ G.O) : Rd G h (.ref a) (frzD o) := by
  cases x with
  | lst l r => exact .lst (k _ List.mem_cons_self) l r
  | grid nd l r => exact .lst (k _ List.mem_cons_self) l (by simpa using r.rd fun a ha => k a (List.mem_cons_of_mem _ ha))
  | hdr e1 hne hn hl hd => exact .hdr (k _ List.mem_cons_self) (k _ (List.mem_cons_of_mem _ List.mem_cons_self)) (k _ (List.mem_cons_of_mem _ (List.mem_cons_of_mem _ List.mem_cons_self))) e1 hne hn hl hd

structure OwnT (B : Bs) (O0 : List Addr) (G : Gh) (s : Shared) (env : Env) (V : List Addr) (Γp : Gm) (x : Str) (a : Addr) (as : List Addr) (o : OD) : Prop where
  ref : look Γp x = some (.ref a)
  od : OdAt G s.heap a as o
  own : ∀ b ∈ as, b ∈ G.O ∧ b ∉ O0 ∧ b ∉ V ∧ (∀ y c, env.cells.lookup y = some c → c ≠ b)

inductive FmHas (B : Bs) (O0 : List Addr) (G : Gh) (s : Shared) (sc : Kd) (env : Env) (V : List Addr) (Γ : Gm) (Ω : Om) : Prop
  | mk (Γp : Gm) (α : Str → Addr) (β : Str → List Addr) (se : Sees B G s env Γp) (h1 : ∀ x d, look Γ x = some d → look Γp x = some d) (h2 : ∀ x o, look Ω x = some o → OwnT B O0 G s env V Γp x (α x) (β x) o)
    (h3 : ∀ x y o o', look Ω x = some o → look Ω y = some o' → ∀ b ∈ β x, b ∈ β y → x = y) : FmHas B O0 G s sc env V Γ Ω

structure Fm (B : Bs) (O0 : List Addr) (G : Gh) (s : Shared) (sc : Kd) (env : Env) (V : List Addr) (Γ : Gm) (Ω : Om) : Prop where
  vo : ∀ a ∈ V, a ∉ O0
  oo : ∀ a ∈ O0, a ∈ G.O
  tb : ∀ a ∈ B.tb, a ∈ O0
  nw : ∀ a ∈ G.O, a ∉ O0 → B.h0.get? a = none
  ow : Own B G s sc env V
  kn : Kn sc env
  cz : ∀ y c, env.cells.lookup y = some c → c < s.heap.objs.size
  has : FmHas B O0 G s sc env V Γ Ω

noncomputable def Wn (G : Gh) (O0 : List Addr) : List Addr := G.O.filter fun a => decide (a ∉ O0)
theorem mem_Wn {G : Gh} {O0 : List Addr} {a : Addr} : a ∈ Wn G O0 ↔ a ∈ G.O ∧ a ∉ O0 := by unfold Wn; rw [List.mem_filter]; simp
structure Tr (B : Bs) (O0 : List Addr) (G : Gh) (s : Shared) (G' : Gh) (s' : Shared) : Prop where
  kx : Kx B (Wn G O0) G s G' s'

section
variable {B : Bs} {O0 : List Addr} {G G' G'' : Gh} {s s' s'' : Shared} {sc : Kd} {env : Env} {V : List Addr} {Γ : Gm} {Ω : Om}
theorem Tr.refl (st : St B G s) : Tr B O0 G s G s := ⟨.refl st⟩
theorem Tr.trans (a : Tr B O0 G s G' s') (b : Tr B O0 G' s' G'' s'') : Tr B O0 G s G'' s'' := ⟨a.kx.trans b.kx fun x hx => by
  obtain ⟨h1, h2⟩ := mem_Wn.mp hx
  exact (a.kx.o x h1).imp (fun q => mem_Wn.mpr ⟨q, h2⟩) id⟩
theorem Tr.ke (st : St B G s) (k : Ke B G s G' s') : Tr B O0 G s G' s' := ⟨.of_ke st k⟩
theorem Fm.st (f : Fm B O0 G s sc env V Γ Ω) : St B G s := by obtain ⟨_, _, _, h, _⟩ := f.has; exact h.st
theorem Fm.se (f : Fm B O0 G s sc env V Γ Ω) : Sees B G s env Γ := by obtain ⟨_, _, _, h, h2, _⟩ := f.has; exact h.less h2
theorem Fm.not_tb (f : Fm B O0 G s sc env V Γ Ω) {a : Addr} (h : a ∉ O0) : a ∉ B.tb := fun m => h (f.tb a m)

theorem Fm.ke (f : Fm B O0 G s sc env V Γ Ω) (k : Ke B G s G' s') : Fm B O0 G' s' sc env V Γ Ω := by
  obtain ⟨Γp, α, β, se, h1, h2, h3⟩ := f.has
  have up := k.up se.st
  refine ⟨f.vo, fun a ha => k.o ▸ f.oo a ha, f.tb, fun a ha => f.nw a (k.o ▸ ha), f.ow.ke k, f.kn, fun y c hy => Nat.lt_of_lt_of_le (f.cz y c hy) k.sz, Γp, α, β, se.ke k, h1, fun x o hx => ?_, h3⟩
  obtain ⟨r, od, own⟩ := h2 x o hx
  exact ⟨r, od.up up fun b hb o' e => k.kp b o' (fun q => f.not_tb (own b hb).2.1 (by simpa using q)) e, fun b hb => ⟨k.o ▸ (own b hb).1, (own b hb).2⟩⟩

theorem Fm.freeze (f : Fm B O0 G s sc env V Γ Ω) : ∃ G', Tr B O0 G s G' s ∧ Fm B O0 G' s sc env V (frz Γ Ω) [] := by
  obtain ⟨Γp, α, β, se, h1, h2, h3⟩ := f.has
  classical
  have hsub : ∀ a ∈ G.O.filter (fun a => decide (a ∈ O0 ∨ a ∈ V ∨ ∃ y, env.cells.lookup y = some a)), a ∈ G.O := fun a ha => (List.mem_filter.mp ha).1
  have hO : ∀ a ∈ O0, a ∈ G.O.filter (fun a => decide (a ∈ O0 ∨ a ∈ V ∨ ∃ y, env.cells.lookup y = some a)) := fun a ha => List.mem_filter.mpr ⟨f.oo a ha, by simp [ha]⟩
  have hV : ∀ a ∈ V, a ∈ G.O.filter (fun a => decide (a ∈ O0 ∨ a ∈ V ∨ ∃ y, env.cells.lookup y = some a)) := fun a ha => List.mem_filter.mpr ⟨f.ow.sub a ha, by simp [ha]⟩
  have ht : ∀ a ∈ B.tb, a ∈ G.O.filter (fun a => decide (a ∈ O0 ∨ a ∈ V ∨ ∃ y, env.cells.lookup y = some a)) := fun a ha => hO a (f.tb a ha)
  have up := Up.free (G := G) (h := s.heap) hsub
  have st' := se.st.free hsub ht
  refine ⟨{ G with O := G.O.filter (fun a => decide (a ∈ O0 ∨ a ∈ V ∨ ∃ y, env.cells.lookup y = some a)) }, ⟨Kx.free (.refl se.st) hsub ht⟩, f.vo, hO, f.tb, fun a ha => f.nw a (hsub a ha), f.ow.gh hV, f.kn, f.cz, ?_⟩
  have no : ∀ x o, look Ω x = some o → Rd { G with O := G.O.filter (fun a => decide (a ∈ O0 ∨ a ∈ V ∨ ∃ y, env.cells.lookup y = some a)) } s.heap (.ref (α x)) (frzD o) := fun x o hx => by
    obtain ⟨r, od, own⟩ := h2 x o hx
    refine (od.up up fun _ _ _ e => e).rd fun b hb m => ?_
    have := (List.mem_filter.mp m).2
    rw [decide_eq_true_eq] at this
    rcases this with q | q | ⟨y, q⟩
    · exact (own b hb).2.1 q
    · exact (own b hb).2.2.1 q
    · exact (own b hb).2.2.2 y b q rfl
  have se' := se.gh st' up
  refine ⟨frz Γ Ω, α, β, ?_, fun _ _ h => h, fun _ _ h => (nomatch h), fun _ _ _ _ h => (nomatch h)⟩
  refine ⟨st', se.kind, se.glob, se.blt, se.lo, ?_, fun x hx => ?_⟩
  · obtain ⟨m, hm, hd⟩ := se'.ns
    refine ⟨m, hm, fun x d hx hk => ?_⟩
    rw [look_frz] at hx
    cases ho : look Ω x with
    | none => rw [ho] at hx; exact hd x d (h1 x d hx) hk
    | some o =>
      rw [ho] at hx; cases hx
      obtain ⟨v, hv, r⟩ := hd x _ (h2 x o ho).ref hk
      have hva : v = .ref (α x) := r.refI
      exact ⟨v, hv, hva ▸ no x o ho⟩
  · obtain ⟨c, hc, hct, hcz, hd⟩ := se'.cl x hx
    refine ⟨c, hc, hct, hcz, fun d hxd => ?_⟩
    rw [look_frz] at hxd
    cases ho : look Ω x with
    | none => rw [ho] at hxd; exact hd d (h1 x d hxd)
    | some o =>
      rw [ho] at hxd; cases hxd
      obtain ⟨v, hv, r⟩ := hd _ (h2 x o ho).ref
      have hva : v = .ref (α x) := r.refI
      exact ⟨v, hv, hva ▸ no x o ho⟩

theorem Fm.stored {A : Around} {E : Value → Shared → Prop} {x : Str} {v : Value} {d : D} {Q : Unit → Shared → Prop} (f : Fm B O0 G s sc env V Γ Ω) (hx : storable sc x = true) (r : Rd G s.heap v d)
    (hQ : ∀ s', Tr B O0 G s G s' → Fm B O0 G s' sc env V (put Γ x d) (del Ω x) → Q () s') : WP B A (storeName env x v) Q E s := by
  obtain ⟨Γp, α, β, se, h1, h2, h3⟩ := f.has
  refine store_ok se f.ow (storable_iff hx) r fun s1 ka kw se1 ow1 => ?_
  have up := kw.up se.st f.ow.sub
  refine hQ s1 ⟨(Kx.of_kw se.st kw).mono fun a ha => mem_Wn.mpr ⟨f.ow.sub a ha, f.vo a ha⟩⟩ ⟨f.vo, f.oo, f.tb, f.nw, ow1, f.kn, fun y c hy => Nat.lt_of_lt_of_le (f.cz y c hy) kw.sz, put Γp x d, α, β, se1, fun y e hy => ?_, fun y o hy => ?_, fun y z o o' hy hz => ?_⟩
  · rw [look_put] at hy ⊢
    by_cases hyx : y = x
    · rw [if_pos hyx] at hy ⊢; exact hy
    · rw [if_neg hyx] at hy ⊢; exact h1 y e hy
  · rw [look_del] at hy
    by_cases hyx : y = x
    · rw [if_pos hyx] at hy; cases hy
    · rw [if_neg hyx] at hy
      obtain ⟨r, od, own⟩ := h2 y o hy
      exact ⟨by rw [look_put, if_neg hyx]; exact r, od.up up fun b hb o' e => kw.kp b o' (fun q => (List.mem_append.mp q).elim (own b hb).2.2.1 (f.not_tb (own b hb).2.1)) e, own⟩
  · rw [look_del] at hy hz
    by_cases hyx : y = x
    · rw [if_pos hyx] at hy; cases hy
    by_cases hzx : z = x
    · rw [if_pos hzx] at hz; cases hz
    rw [if_neg hyx] at hy; rw [if_neg hzx] at hz
    exact h3 y z o o' hy hz
end
end Mine

end
section
open PySem PySem.W PyProof.Rows
set_option Elab.async false
namespace Mine

noncomputable def delNs {α : Type} (Ω : List (Str × α)) : List Expr → List (Str × α)
  | [] => Ω
  | .Name x _ :: r => delNs (del Ω x) r
  | _ :: r => delNs Ω r
noncomputable def delT {α : Type} (Ω : List (Str × α)) (t : Expr) : List (Str × α) := match Ω with
  | [] => []
  | _ => match t with
    | .Name x _ => del Ω x
    | .Tuple es _ _ => delNs Ω es
    | _ => Ω
theorem delNs_nil {α : Type} : ∀ es : List Expr, delNs ([] : List (Str × α)) es = []
  | [] => rfl
  | e :: r => by cases e <;> exact delNs_nil r
theorem delT_eq {α : Type} (Ω : List (Str × α)) (t : Expr) : delT Ω t = match t with
    | .Name x _ => del Ω x
    | .Tuple es _ _ => delNs Ω es
    | _ => Ω := by
  cases Ω with
  | nil => cases t <;> first | rfl | exact (delNs_nil _).symm
  | cons _ _ => rfl

section
variable {B : Bs} {A : Around} {O0 : List Addr} {G G' G'' : Gh} {s s' s'' : Shared} {sc : Kd} {env : Env} {V : List Addr} {Γ Γ' : Gm} {Ω : Om} {E : Value → Shared → Prop} {m : Nat}

theorem Tr.up (t : Tr B O0 G s G' s') (st : St B G s) : Up G s.heap G' s'.heap := t.kx.up st fun _ ha => (mem_Wn.mp ha).1

theorem fm_bindNs : ∀ {es : List Expr} {ds : List D} {vs : List Value} {Γ Γ' : Gm} {Ω : Om} {s : Shared} {Q : Unit → Shared → Prop}, bindNs sc es ds Γ = some Γ' → Fm B O0 G s sc env V Γ Ω → RdL G s.heap vs ds →
    (∀ s', Tr B O0 G s G s' → Fm B O0 G s' sc env V Γ' (delNs Ω es) → Q () s') → WP B A (assignInOrder ((assignEach es env).map (·.2)) vs) Q E s
  | [], _, vs, Γ, Γ', Ω, s, Q, h, f, r, hQ => by
    obtain ⟨rfl, rfl⟩ := bindNs_nil h
    exact r.nilK (WP.pure (hQ s (.refl f.st) f))
  | e :: es, _, vs, Γ, Γ', Ω, s, Q, h, f, r, hQ => by
    obtain ⟨x, p, d, ds, rfl, rfl, hx, h⟩ := bindNs_inv h
    refine r.consK fun v vs rv rs => ?_
    show WP B A (do holding vs (assign (.Name x p) env v); assignInOrder ((assignEach es env).map (·.2)) vs) Q E s
    refine WP.bind (WP.holding ⟨@wpAny_assign_Name _ _ _ _ _ _ _ _ _ (f.stored hx rv fun s1 t1 f1 => ?_).w⟩)
    exact fm_bindNs h f1 (rs.up (t1.up f.st)) fun s2 t2 f2 => hQ s2 (t1.trans t2) f2

theorem fm_bind {t : Expr} {d : D} {v : Value} {Q : Unit → Shared → Prop} (rm : Room m A) (h : bindT sc t d Γ = some Γ') (f : Fm B O0 G s sc env V Γ Ω) (r : Rd G s.heap v d)
    (hQ : ∀ s', Tr B O0 G s G s' → Fm B O0 G s' sc env V Γ' (delT Ω t) → Q () s') : WP B A (assign t env v) Q E s := by
  rw [delT_eq] at hQ
  cases bindT_inv h with
  | name hx e => exact ⟨@wpAny_assign_Name _ _ _ _ _ _ _ _ _ (f.stored hx r fun s1 t1 f1 => hQ s1 t1 (e ▸ f1)).w⟩
  | tup e h =>
      subst e
      refine r.tupK fun a items n ha hl hd => ?_
      obtain ⟨h1, h2⟩ := bindNs_len (env := env) h
      rw [arm_assign_Tuple]
      refine WP.bind (WP.standAt ?_)
      unfold unpack
      rw [h1, h2]
      refine WP.bind (WP.holding (unpackItems_ok rm f.st hl hd fun s1 k1 => ?_))
      exact fm_bindNs h (f.ke k1) (hd.ke f.st k1) fun s2 t2 f2 => hQ s2 ((Tr.ke f.st k1).trans t2) f2

theorem Fm.newOwn {G1 : Gh} {s1 : Shared} {x : Str} {a : Addr} {as Z : List Addr} {o : OD} {Q : Unit → Shared → Prop} (f : Fm B O0 G s sc env V Γ Ω) (k : Ke B G s G1 s1) (has : ∀ b ∈ as ++ Z, s.heap.objs.size ≤ b ∧ b < s1.heap.objs.size) (hZ : ∀ b ∈ as, b ∉ Z)
    (od : OdAt { G1 with O := as ++ Z ++ G1.O } s1.heap a as o) (hx : storable sc x = true)
    (hQ : ∀ s', Kw B V { G1 with O := as ++ Z ++ G1.O } s1 { G1 with O := as ++ Z ++ G1.O } s' → Tr B O0 G s { G1 with O := as ++ Z ++ G1.O } s' → Fm B (Z ++ O0) { G1 with O := as ++ Z ++ G1.O } s' sc env V (del Γ x) (putA Ω x o) → Q () s') : WP B A (storeName env x (.ref a)) Q E s1 := by
  obtain ⟨Γp, α, β, se, h1, h2, h3⟩ := f.has
  have old : ∀ b ∈ G.O, b ∈ as ++ Z ++ G1.O := fun b hb => List.mem_append_right _ (by rw [k.o]; exact hb)
  have kx : Kx B [] G s { G1 with O := as ++ Z ++ G1.O } s1 := Kx.own f.st k (fun b hb => (List.mem_append.mp hb).elim (fun q => .inr (has b q)) fun q => .inl (k.o ▸ q)) old
  have se1 := se.k0 kx
  have up1 := kx.up f.st (fun _ h => nomatch h)
  have ow1 : Own B { G1 with O := as ++ Z ++ G1.O } s1 sc env V := f.ow.k0 kx fun b hb => old b (f.ow.sub b hb)
  have lowO : ∀ b ∈ G.O, b ∉ as ++ Z := fun b hb q => Nat.not_lt.mpr (has b q).1 (f.st.lt b hb)
  have lowA : ∀ b ∈ G.O, b ∉ as := fun b hb q => lowO b hb (List.mem_append_left _ q)
  have lowZ : ∀ b ∈ G.O, b ∉ O0 → b ∉ Z ++ O0 := fun b hb hn q => (List.mem_append.mp q).elim (fun q => lowO b hb (List.mem_append_right _ q)) hn
  refine store_ok se1 ow1 (storable_iff hx) (.ref a) fun s2 ka kw se2 ow2 => ?_
  have up2 := kw.up se1.st ow1.sub
  have offW : ∀ b ∈ as, b ∉ V ++ B.tb := fun b hb q => (List.mem_append.mp q).elim (fun q => lowA b (f.ow.sub b q) hb) fun q => lowA b (f.oo b (f.tb b q)) hb
  refine hQ s2 kw ⟨(kx.mono (fun _ h => nomatch h)).trans (Kx.of_kw se1.st kw) fun b hb => .inl (mem_Wn.mpr ⟨f.ow.sub b hb, f.vo b hb⟩)⟩ ⟨fun b hb => lowZ b (f.ow.sub b hb) (f.vo b hb), fun b hb => (List.mem_append.mp hb).elim (fun q => List.mem_append_left _ (List.mem_append_right _ q)) fun q => old b (f.oo b q), fun b hb => List.mem_append_right _ (f.tb b hb), fun b hb hn => ?_, ow2, f.kn,
    fun y c hy => Nat.lt_of_lt_of_le (f.cz y c hy) (Nat.le_trans k.sz kw.sz), put Γp x (.ref a), fun y => if y = x then a else α y, fun y => if y = x then as else β y, se2, fun y e hy => ?_, fun y o' hy => ?_, fun y z o1 o2 hy hz b hb hb' => ?_⟩
  · rcases List.mem_append.mp hb with q | q
    · exact f.st.fresh0 (has b q).1
    · exact f.nw b (k.o ▸ q) fun m => hn (List.mem_append_right _ m)
  · rw [look_del] at hy
    by_cases hyx : y = x
    · rw [if_pos hyx] at hy; cases hy
    · rw [if_neg hyx] at hy; rw [look_put, if_neg hyx]; exact h1 y e hy
  · rw [look_putA] at hy
    by_cases hyx : y = x
    · rw [if_pos hyx] at hy; cases hy
      simp only [if_pos hyx]
      exact ⟨by rw [look_put, if_pos hyx], od.up up2 fun b hb o' e => kw.kp b o' (offW b hb) e, fun b hb => ⟨List.mem_append_left _ (List.mem_append_left _ hb), fun q => (List.mem_append.mp q).elim (hZ b hb) fun q => lowA b (f.oo b q) hb, fun q => lowA b (f.ow.sub b q) hb, fun y c hy q => Nat.not_lt.mpr (has b (List.mem_append_left _ hb)).1 (q ▸ f.cz y c hy)⟩⟩
    · rw [if_neg hyx] at hy
      simp only [if_neg hyx]
      obtain ⟨r, od', own⟩ := h2 y o' hy
      have od1 := od'.up up1 fun b hb o'' e => kx.kw.kp b o'' (fun q => f.not_tb (own b hb).2.1 (by simpa using q)) e
      exact ⟨by rw [look_put, if_neg hyx]; exact r, od1.up up2 fun b hb o'' e => kw.kp b o'' (fun q => (List.mem_append.mp q).elim (own b hb).2.2.1 (f.not_tb (own b hb).2.1)) e, fun b hb => ⟨old b (own b hb).1, lowZ b (own b hb).1 (own b hb).2.1, (own b hb).2.2⟩⟩
  · rw [look_putA] at hy hz
    by_cases hyx : y = x
    · by_cases hzx : z = x
      · rw [hyx, hzx]
      · rw [if_neg hzx] at hz
        simp only [if_pos hyx] at hb
        simp only [if_neg hzx] at hb'
        exact absurd hb (lowA b ((h2 z o2 hz).own b hb').1)
    · rw [if_neg hyx] at hy
      simp only [if_neg hyx] at hb
      by_cases hzx : z = x
      · simp only [if_pos hzx] at hb'
        exact absurd hb' (lowA b ((h2 y o1 hy).own b hb).1)
      · rw [if_neg hzx] at hz
        simp only [if_neg hzx] at hb'
        exact h3 y z o1 o2 hy hz b hb hb'

theorem Fm.turn {x : Str} {o : OD} (f : Fm B O0 G s sc env V Γ Ω) (hx : look Ω x = some o) : ∃ a as, (∀ b ∈ as, b ∈ G.O ∧ b ∉ O0 ∧ b ∉ V) ∧ (∃ Γp, Sees B G s env Γp ∧ look Γp x = some (.ref a) ∧ ∀ y d, look Γ y = some d → look Γp y = some d) ∧ (∀ b ∈ as, ∀ y c, env.cells.lookup y = some c → c ≠ b) ∧
    ∀ G1 s1, Ke B G s G1 s1 → OdAt G1 s1.heap a as o ∧ ∀ {G2 : Gh} s' o', Kw B as G1 s1 G2 s' → OdAt G2 s'.heap a as o' → Tr B O0 G s G2 s' ∧ Fm B O0 G2 s' sc env V Γ (putA Ω x o') := by
  obtain ⟨Γp, α, β, se, h1, h2, h3⟩ := f.has
  obtain ⟨r, od, own⟩ := h2 x o hx
  refine ⟨α x, β x, fun b hb => ⟨(own b hb).1, (own b hb).2.1, (own b hb).2.2.1⟩, ⟨Γp, se, r, h1⟩, fun b hb => (own b hb).2.2.2, fun G1 s1 k1 => ?_⟩
  have f1 := f.ke k1
  have up1 := k1.up se.st
  have tr : ∀ y o1, look Ω y = some o1 → OwnT B O0 G1 s1 env V Γp y (α y) (β y) o1 := fun y o1 hy => by
    obtain ⟨r, od, own⟩ := h2 y o1 hy
    exact ⟨r, od.up up1 fun b hb o' e => k1.kp b o' (fun q => f.not_tb (own b hb).2.1 (by simpa using q)) e, fun b hb => ⟨k1.o ▸ (own b hb).1, (own b hb).2⟩⟩
  obtain ⟨_, od1, own1⟩ := tr x o hx
  refine ⟨od1, fun {G2} s' o' kw od' => ?_⟩
  have se1 := se.ke k1
  have hW : ∀ b ∈ β x, b ∈ G1.O := fun b hb => (own1 b hb).1
  have h0 : ∀ b ∈ β x, B.h0.get? b = none := fun b hb => f1.nw b (own1 b hb).1 (own1 b hb).2.1
  have up := kw.up se1.st hW
  refine ⟨(Tr.ke f.st k1).trans ⟨(Kx.of_kw se1.st kw).mono fun b hb => mem_Wn.mpr ⟨(own1 b hb).1, (own1 b hb).2.1⟩⟩, f1.vo, fun b hb => kw.o ▸ f1.oo b hb, f1.tb, fun b hb => f1.nw b (kw.o ▸ hb), f1.ow.kw kw fun y c hy hc q => (own1 c q).2.2.2 y c hc rfl, f1.kn, fun y c hy => Nat.lt_of_lt_of_le (f1.cz y c hy) kw.sz, Γp, α, β,
    se1.kw kw hW h0 (fun q => (own1 _ q).2.2.1 f1.ow.loc) (fun y c hy q => (own1 c q).2.2.2 y c hy rfl), h1, fun y o1 hy => ?_, fun y z o1 o2 hy hz => ?_⟩
  · rw [look_putA] at hy
    by_cases hyx : y = x
    · rw [if_pos hyx] at hy; cases hy; subst hyx
      exact ⟨r, od', fun b hb => ⟨kw.o ▸ (own1 b hb).1, (own1 b hb).2⟩⟩
    · rw [if_neg hyx] at hy
      obtain ⟨r1, od1, own1⟩ := tr y o1 hy
      refine ⟨r1, od1.up up fun b hb o'' e => kw.kp b o'' (fun q => ?_) e, fun b hb => ⟨kw.o ▸ (own1 b hb).1, (own1 b hb).2⟩⟩
      rcases List.mem_append.mp q with q | q
      · exact hyx (h3 y x o1 o hy hx b hb q)
      · exact f1.not_tb (own1 b hb).2.1 q
  · have look' : ∀ y o1, look (putA Ω x o') y = some o1 → ∃ o2, look Ω y = some o2 := fun y o1 hy => by
      rw [look_putA] at hy
      by_cases hyx : y = x
      · exact ⟨o, hyx ▸ hx⟩
      · rw [if_neg hyx] at hy; exact ⟨o1, hy⟩
    obtain ⟨p1, hp1⟩ := look' y o1 hy
    obtain ⟨p2, hp2⟩ := look' z o2 hz
    exact h3 y z p1 p2 hp1 hp2
end
end Mine

end
section
open PySem PySem.W PyProof.Rows
set_option Elab.async false
namespace Mine

noncomputable def evF (ev : Gm → Expr → Option D) (Γ : Gm) (Ω : Om) (e : Expr) : Option (D × Gm × Om) := match ev Γ e with
  | some d => some (d, Γ, Ω)
  | none => match Ω with
    | [] => none
    | _ :: _ => match ev (frz Γ Ω) e with
      | some d => some (d, frz Γ Ω, [])
      | none => none
noncomputable abbrev Sv := Kd → Gm → Om → Stmt → Option Rs
noncomputable def evSs (rec : Sv) (sc : Kd) : List Stmt → Gm → Om → Option Rs
  | [], Γ, Ω => some (.nxt, Γ, Ω)
  | st :: r, Γ, Ω => match rec sc Γ Ω st with
    | none => none
    | some (fl, Γ', Ω') => match fl with
      | .nxt => evSs rec sc r Γ' Ω'
      | _ => some (fl, Γ', Ω')
noncomputable def forD (sc : Kd) (t : Expr) (body : Gm → Om → Option Rs) : List D → Gm → Om → Option Rs
  | [], Γ, Ω => some (.nxt, Γ, Ω)
  | x :: xs, Γ, Ω => match bindT sc t x Γ with
    | none => none
    | some Γ1 => match body Γ1 (delT Ω t) with
      | none => none
      | some (fl, Γ2, Ω2) => match fl with
        | .nxt => forD sc t body xs Γ2 Ω2
        | .cnt => forD sc t body xs Γ2 Ω2
        | .brk => some (.nxt, Γ2, Ω2)
        | .ret d => some (.ret d, Γ2, Ω2)
noncomputable def testD (ev : Gm → Expr → Option D) (Γ : Gm) (Ω : Om) (e : Expr) : Option (Bool × Gm × Om) := match evF ev Γ Ω e with
  | none => none
  | some (d, Γ', Ω') => match truth d with
    | none => none
    | some b => some (b, Γ', Ω')
noncomputable def whileD (ev : Gm → Expr → Option D) (t : Expr) (body : Gm → Om → Option Rs) : Nat → Gm → Om → Option Rs
  | 0, _, _ => none
  | n + 1, Γ, Ω => match testD ev Γ Ω t with
    | none => none
    | some (b, Γ1, Ω1) => match b with
      | false => some (.nxt, Γ1, Ω1)
      | true => match body Γ1 Ω1 with
        | none => none
        | some (fl, Γ2, Ω2) => match fl with
          | .nxt => whileD ev t body n Γ2 Ω2
          | .cnt => whileD ev t body n Γ2 Ω2
          | .brk => some (.nxt, Γ2, Ω2)
          | .ret d => some (.ret d, Γ2, Ω2)
noncomputable def isTup (e : Expr) : Bool := (tupO e).isSome
noncomputable def isLst (e : Expr) : Bool := (lstEO e).isSome
noncomputable def swapC (sc : Kd) (x y : Str) (p q : Pos) (v1 v2 : Expr) : Bool := decide (look sc x = some .local) && (decide (look sc y = some .local) && ((q.line == p.line) && (!strEq x y && (!isStar v1 && (!isStar v2 && (![v1, v2].all (foldedForSure 8) && ![v1, v2].all (constantsAlone 8)))))))
noncomputable def swapOk (sc : Kd) (ts vs : List Expr) : Option (Str × Str) := (duo ts).bind fun t => (duo vs).bind fun v => (nameOf t.1).bind fun x => (nameOf t.2).bind fun y => tst (swapC sc x y t.1.pos t.2.pos v.1 v.2) (some (x, y))
noncomputable def tupEs (e : Expr) : List Expr := ((tupO e).map fun p => p.1).getD []
noncomputable def swapD (ev : Kd → Gm → Expr → Option D) (sc : Kd) (Γ : Gm) (Ω : Om) (ts : List Expr) (v : Expr) (vs : List Expr) : Option Rs := (swapOk sc ts vs).bind fun n => (evF (ev sc) Γ Ω v).bind fun p => ((tupOf1 p.1).bind duo).bind fun d => some (.nxt, put (put p.2.1 n.2 d.2) n.1 d.1, del (del p.2.2 n.2) n.1)
noncomputable def tupD (ev : Kd → Gm → Expr → Option D) (sc : Kd) (Γ : Gm) (Ω : Om) (t v : Expr) : Option Rs := match evF (ev sc) Γ Ω v with
  | some (d, Γ', Ω') => match bindT sc t d Γ' with
    | some Γ2 => some (.nxt, Γ2, delT Ω' t)
    | none => none
  | none => none
noncomputable def assignD (ev : Kd → Gm → Expr → Option D) (sc : Kd) (Γ : Gm) (Ω : Om) (t v : Expr) : Option Rs := match t with
  | .Name x _ => match storable sc x with
    | false => none
    | true => match isLst v with
      | true => match evF (ev sc) Γ Ω v with
        | some (.lst ds, Γ', Ω') => some (.nxt, del Γ' x, putA Ω' x (.lst ds))
        | _ => none
      | false => match evF (ev sc) Γ Ω v with
        | some (d, Γ', Ω') => some (.nxt, put Γ' x d, del Ω' x)
        | none => none
  | .Tuple ts _ _ => match isTup v with
    | true => swapD ev sc Γ Ω ts v (tupEs v)
    | false => tupD ev sc Γ Ω t v
  | _ => none
noncomputable def augD (ev : Gm → Expr → Option D) (sc : Kd) (Γ : Gm) (Ω : Om) (x : Str) (op : Operator) (v : Expr) : Option Rs := match storable sc x with
  | false => none
  | true => match strEq x "__classdict__" with
    | true => none
    | false => match look Γ x with
      | none => none
      | some a => match ev Γ v with
        | none => none
        | some b => match inpOp op a b with
          | none => none
          | some d => some (.nxt, put Γ x d, del Ω x)
noncomputable def appC (sc : Kd) (x m : Str) (apos cpos : Pos) (e : Expr) : Bool := strEq m "append" && (!strEq x "__debug__" && (!strEq x "__classdict__" && ((apos.endLine == cpos.line) && (!isStar e && storable sc x))))
noncomputable def lstO : OD → Option (List D)
  | .lst ds => some ds
  | _ => none
theorem lstO_eq {o : OD} {ds : List D} (h : lstO o = some ds) : o = .lst ds := by
  cases o <;> first | exact nsd h | exact congrArg OD.lst (Option.some.inj h)
noncomputable def appendD (ev : Gm → Expr → Option D) (sc : Kd) (Γ : Gm) (Ω : Om) (x m : Str) (apos cpos : Pos) (e : Expr) : Option Rs := tst (appC sc x m apos cpos e) ((look Ω x).bind fun o => (lstO o).bind fun ds => (ev Γ e).bind fun d => tst (Nat.ble ds.length 900) (some (.nxt, Γ, putA Ω x (.lst (ds ++ [d])))))

noncomputable def plainD : D → Bool
  | .none => true
  | .bool _ => true
  | .int _ => true
  | .flt _ => true
  | .str _ => true
  | _ => false
noncomputable def dropD (ev : Gm → Expr → Option D) (Γ : Gm) (Ω : Om) (e : Expr) : Option Rs := (evF ev Γ Ω e).bind fun p => (strOf1 p.1).bind fun _ => some (.nxt, p.2)
noncomputable def exprD (ev : Kd → Gm → Expr → Option D) (sc : Kd) (Γ : Gm) (Ω : Om) (e : Expr) : Option Rs := (calO e).bind fun k => cond k.2.2.1.isEmpty ((attO k.1).bind fun a => (nameOf a.1).bind fun x => (solo k.2.1).bind fun y => appendD (ev sc) sc Γ Ω x a.2.1 a.2.2 k.2.2.2 y) (dropD (ev sc) Γ Ω e)
noncomputable def evB (ev : Kd → Gm → Expr → Option D) (k : Nat) (rec : Sv) (sc : Kd) (Γ : Gm) (Ω : Om) (st : Stmt) : Option Rs := match st with
    | .Assign ts v _ => match ts with
      | [t] => assignD ev sc Γ Ω t v
      | _ => none
    | .AugAssign t op v _ => match t with
      | .Name x _ => augD (ev sc) sc Γ Ω x op v
      | _ => none
    | .If t b o _ => match testD (ev sc) Γ Ω t with
      | none => none
      | some (c, Γ1, Ω1) => match c with
        | true => evSs rec sc b Γ1 Ω1
        | false => evSs rec sc o Γ1 Ω1
    | .While t b o _ => match o with
      | [] => whileD (ev sc) t (evSs rec sc b) k Γ Ω
      | _ => none
    | .For t i b o _ => match o, isSet i with
      | [], false => match evF (ev sc) Γ Ω i with
        | none => none
        | some (d, Γ1, Ω1) => match iterD d with
          | none => none
          | some xs => forD sc t (evSs rec sc b) xs Γ1 Ω1
      | _, _ => none
    | .Return e _ => match e with
      | none => some (.ret .none, Γ, Ω)
      | some e => match evF (ev sc) Γ Ω e with
        | none => none
        | some (d, Γ1, Ω1) => some (.ret d, Γ1, Ω1)
    | .Expr e _ => exprD ev sc Γ Ω e
    | .Pass _ => some (.nxt, Γ, Ω)
    | _ => none
noncomputable def evS1 (H : Hk) (ev : Kd → Gm → Expr → Option D) (k : Nat) (rec : Sv) : Sv := fun sc Γ Ω st => match H.S sc Γ Ω st with
  | some r => some r
  | none => evB ev k rec sc Γ Ω st
noncomputable def evS (H : Hk) (ev : Kd → Gm → Expr → Option D) (k n : Nat) : Sv := Nat.rec (fun _ _ _ _ => none) (fun _ rec => evS1 H ev k rec) n

noncomputable def FlOk (G : Gh) (s : Shared) : Flow → Fl → Prop
  | .next, .nxt => True
  | .brk, .brk => True
  | .cont, .cnt => True
  | .ret v, .ret d => Rd G s.heap v d
  | _, _ => False
noncomputable def PostS (B : Bs) (O0 : List Addr) (G : Gh) (s : Shared) (sc : Kd) (env : Env) (V : List Addr) (r : Rs) (Q : Flow → Shared → Prop) : Prop :=
  ∀ f G' s', Tr B O0 G s G' s' → Fm B O0 G' s' sc env V r.2.1 r.2.2 → FlOk G' s' f r.1 → Q f s'
noncomputable def OkS (B : Bs) (L : Nat) (rec : Sv) : Prop := ∀ sc Γ Ω st r, rec sc Γ Ω st = some r → ∀ A O0 G s env V E Q, Room L A → Fm B O0 G s sc env V Γ Ω → PostS B O0 G s sc env V r Q → WP B A (exec st env) Q E s

section
variable {B : Bs} {A : Around} {O0 : List Addr} {G G' G'' : Gh} {s s' s'' : Shared} {sc : Kd} {env : Env} {V : List Addr} {Γ Γ' : Gm} {Ω Ω' : Om} {E : Value → Shared → Prop} {L : Nat} {ev : Ev} {rec : Sv}

theorem PostS.after {r : Rs} {Q : Flow → Shared → Prop} (h : PostS B O0 G s sc env V r Q) (t : Tr B O0 G s G' s') : PostS B O0 G' s' sc env V r Q := fun f G2 s2 t2 f2 fl => h f G2 s2 (t.trans t2) f2 fl

theorem evF_ok {e : Expr} {d : D} (f : Fm B O0 G s sc env V Γ Ω) (h : evF (ev sc) Γ Ω e = some (d, Γ', Ω')) : ∃ G', Tr B O0 G s G' s ∧ Fm B O0 G' s sc env V Γ' Ω' ∧ ev sc Γ' e = some d := by
  unfold evF at h
  split at h
  · rename_i d' hd
    cases h
    exact ⟨G, .refl f.st, f, hd⟩
  · split at h
    · first | exact nsd h | exact nft h | exact ntf h | cases h
    · split at h
      · rename_i d' hd
        cases h
        obtain ⟨G', t, f'⟩ := f.freeze
        exact ⟨G', t, f', hd⟩
      · first | exact nsd h | exact nft h | exact ntf h | cases h

theorem ss_ok (ok : OkS B L rec) (rm : Room L A) : ∀ {sts : List Stmt} {Γ : Gm} {Ω : Om} {r : Rs} {G : Gh} {s : Shared} {Q : Flow → Shared → Prop}, evSs rec sc sts Γ Ω = some r → Fm B O0 G s sc env V Γ Ω → PostS B O0 G s sc env V r Q → WP B A (execs sts env) Q E s
  | [], Γ, Ω, r, G, s, Q, h, f, hQ => by
    cases h
    exact ⟨@wpAny_execs_nil _ _ _ _ _ _ (hQ .next G s (.refl f.st) f trivial)⟩
  | st :: sts, Γ, Ω, r, G, s, Q, h, f, hQ => by
    unfold evSs at h
    split at h
    · first | exact nsd h | exact nft h | exact ntf h | cases h
    rename_i fl Γ1 Ω1 h1
    refine ⟨@wpAny_execs_cons _ _ _ _ _ _ _ _ (ok sc Γ Ω st _ h1 A O0 G s env V E _ rm f fun fw G1 s1 t1 f1 hfl => ?_).w⟩
    cases fl <;> simp only at h
    case nxt =>
      cases fw <;> first | exact False.elim hfl | skip
      exact (ss_ok ok rm h f1 (hQ.after t1)).w
    case brk =>
      cases fw <;> first | exact False.elim hfl | skip
      cases h; exact hQ .brk G1 s1 t1 f1 trivial
    case cnt =>
      cases fw <;> first | exact False.elim hfl | skip
      cases h; exact hQ .cont G1 s1 t1 f1 trivial
    case ret d =>
      cases fw <;> first | exact False.elim hfl | skip
      cases h; exact hQ _ G1 s1 t1 f1 hfl

theorem test_okS (okT : OkT B L ev) (rm : Room L A) {e : Expr} {b : Bool} {Q : Bool → Shared → Prop} (f : Fm B O0 G s sc env V Γ Ω) (h : testD (ev sc) Γ Ω e = some (b, Γ', Ω'))
    (hQ : ∀ G' s', Tr B O0 G s G' s' → Fm B O0 G' s' sc env V Γ' Ω' → Q b s') : WP B A (isTrue e env (eval e env)) Q E s := by
  unfold testD at h
  split at h
  · first | exact nsd h | exact nft h | exact ntf h | cases h
  rename_i d Γ1 Ω1 h1
  split at h
  · first | exact nsd h | exact nft h | exact ntf h | cases h
  rename_i b' hb
  cases h
  obtain ⟨G1, t1, f1, hev⟩ := evF_ok f h1
  exact okT sc Γ' e d b hev hb A G1 s env E _ rm f1.kn f1.se fun G2 s2 k2 => hQ G2 s2 (t1.trans (Tr.ke f1.st k2)) (f1.ke k2)

theorem eval_okS (ok : OkE B L ev) (rm : Room L A) {e : Expr} {d : D} {Q : Value → Shared → Prop} (f : Fm B O0 G s sc env V Γ Ω) (h : evF (ev sc) Γ Ω e = some (d, Γ', Ω'))
    (hQ : ∀ v G' s', Tr B O0 G s G' s' → Fm B O0 G' s' sc env V Γ' Ω' → Rd G' s'.heap v d → Q v s') : WP B A (eval e env) Q E s := by
  obtain ⟨G1, t1, f1, hev⟩ := evF_ok f h
  exact ok sc Γ' e d hev A G1 s env E _ rm f1.kn f1.se fun v G2 s2 k2 r2 => hQ v G2 s2 (t1.trans (Tr.ke f1.st k2)) (f1.ke k2) r2
end
end Mine

end
section
open PySem PySem.W PyProof.Rows
set_option Elab.async false
namespace Mine

section
variable {B : Bs} {A : Around} {O0 : List Addr} {G G' G'' Gb : Gh} {s s' s'' sb : Shared} {sc : Kd} {env : Env} {V : List Addr} {Γ Γ' : Gm} {Ω Ω' : Om} {E : Value → Shared → Prop} {L : Nat} {ev : Ev} {rec : Sv} {I : Addr}

theorem Fm.openI {O' : List Addr} (f : Fm B O0 G s sc env V Γ Ω) (k : Kx B [] G s { G' with O := O' } s') (hO : ∀ a, a ∈ O' ↔ a = I ∨ a ∈ G.O) (h1 : s.heap.objs.size ≤ I) : Fm B (I :: O0) { G' with O := O' } s' sc env V Γ Ω := by
  obtain ⟨Γp, α, β, se, g1, g2, g3⟩ := f.has
  have up := k.up f.st (fun _ h => nomatch h)
  have low : ∀ a ∈ G.O, a ≠ I := fun a ha q => Nat.not_lt.mpr h1 (q ▸ f.st.lt a ha)
  refine ⟨fun a ha q => (List.mem_cons.mp q).elim (low a (f.ow.sub a ha)) (f.vo a ha), fun a ha => (hO a).mpr ((List.mem_cons.mp ha).imp id (f.oo a)), fun a ha => List.mem_cons_of_mem _ (f.tb a ha), fun a ha hn => ?_,
    f.ow.k0 k fun a ha => (hO a).mpr (.inr (f.ow.sub a ha)), f.kn, fun y c hy => Nat.lt_of_lt_of_le (f.cz y c hy) k.sz, Γp, α, β, se.k0 k, g1, fun x o hx => ?_, g3⟩
  · rcases (hO a).mp ha with q | q
    · exact absurd (q ▸ List.mem_cons_self) hn
    · exact f.nw a q fun m => hn (List.mem_cons_of_mem _ m)
  · obtain ⟨r, od, own⟩ := g2 x o hx
    exact ⟨r, od.up up fun b hb o' e => k.kw.kp b o' (fun q => f.not_tb (own b hb).2.1 (by simpa using q)) e, fun b hb => ⟨(hO b).mpr (.inr (own b hb).1), fun q => (List.mem_cons.mp q).elim (low b (own b hb).1) (own b hb).2.1, (own b hb).2.2⟩⟩
theorem Fm.closeI (f : Fm B (I :: O0) G s sc env V Γ Ω) (h0 : B.h0.get? I = none) : Fm B O0 G s sc env V Γ Ω := by
  obtain ⟨Γp, α, β, se, g1, g2, g3⟩ := f.has
  refine ⟨fun a ha q => f.vo a ha (List.mem_cons_of_mem _ q), fun a ha => f.oo a (List.mem_cons_of_mem _ ha), fun a ha => (List.mem_cons.mp (f.tb a ha)).elim (fun q => absurd (q ▸ ha) (Mine.not_tb h0)) id, fun a ha hn => ?_, f.ow, f.kn, f.cz, Γp, α, β, se, g1, fun x o hx => ?_, g3⟩
  · by_cases q : a = I
    · rw [q]; exact h0
    · exact f.nw a ha fun m => (List.mem_cons.mp m).elim q hn
  · obtain ⟨r, od, own⟩ := g2 x o hx
    exact ⟨r, od, fun b hb => ⟨(own b hb).1, fun q => (own b hb).2.1 (List.mem_cons_of_mem _ q), (own b hb).2.2⟩⟩
theorem Fm.kwI (f : Fm B (I :: O0) G s sc env V Γ Ω) (k : Kw B [I] G s G s') (hc : ∀ y c, env.cells.lookup y = some c → c ≠ I) (h0 : B.h0.get? I = none) : Fm B (I :: O0) G s' sc env V Γ Ω := by
  obtain ⟨Γp, α, β, se, g1, g2, g3⟩ := f.has
  have hI : I ∈ G.O := f.oo I List.mem_cons_self
  have hW : ∀ a ∈ [I], a ∈ G.O := fun a ha => by rw [List.mem_singleton.mp ha]; exact hI
  have hc' : ∀ y c, env.cells.lookup y = some c → c ∉ [I] := fun y c hy q => hc y c hy (List.mem_singleton.mp q)
  have up := k.up f.st hW
  refine ⟨f.vo, f.oo, f.tb, f.nw, f.ow.kw k fun x c _ hx => hc' x c hx, f.kn, fun y c hy => Nat.lt_of_lt_of_le (f.cz y c hy) k.sz, Γp, α, β, se.kw k hW (fun a ha => by rw [List.mem_singleton.mp ha]; exact h0) (fun q => f.vo _ f.ow.loc (List.mem_singleton.mp q ▸ List.mem_cons_self)) hc', g1, fun x o hx => ?_, g3⟩
  obtain ⟨r, od, own⟩ := g2 x o hx
  exact ⟨r, od.up up fun b hb o' e => k.kp b o' (fun q => (List.mem_append.mp q).elim (fun q => (own b hb).2.1 (List.mem_singleton.mp q ▸ List.mem_cons_self)) (f.not_tb (own b hb).2.1)) e, own⟩
theorem Tr.sub (t : Tr B O0 Gb sb G s) (t' : Tr B (I :: O0) G s G' s') : Tr B O0 Gb sb G' s' := ⟨t.kx.trans t'.kx fun a ha => by
  obtain ⟨h1, h2⟩ := mem_Wn.mp ha
  exact (t.kx.o a h1).imp (fun q => mem_Wn.mpr ⟨q, fun m => h2 (List.mem_cons_of_mem _ m)⟩) id⟩
theorem Tr.kwI (t : Tr B O0 Gb sb G s) (st : St B G s) (k : Kw B [I] G s G s') (hI : sb.heap.objs.size ≤ I) : Tr B O0 Gb sb G s' := ⟨t.kx.trans (Kx.of_kw st k) fun a ha => .inr (by rw [List.mem_singleton.mp ha]; exact hI)⟩

inductive FInv (B : Bs) (A : Around) (O0 : List Addr) (G : Gh) (s : Shared) (sc : Kd) (env : Env) (V : List Addr) (I : Addr) (run : List D → Gm → Om → Option Rs) (r : Rs) (k : Nat) (s3 : Shared) : Prop
  | mk (G3 : Gh) (xs3 : List D) (Γ3 : Gm) (Ω3 : Om) (hk : xs3.length = k) (t3 : Tr B O0 G s G3 s3) (f3 : Fm B (I :: O0) G3 s3 sc env V Γ3 Ω3) (src : Src B A I G3 s3 xs3) (h : run xs3 Γ3 Ω3 = some r) : FInv B A O0 G s sc env V I run r k s3
inductive WInv (B : Bs) (O0 : List Addr) (G : Gh) (s : Shared) (sc : Kd) (env : Env) (V : List Addr) (run : Nat → Gm → Om → Option Rs) (r : Rs) (k : Nat) (s3 : Shared) : Prop
  | mk (G3 : Gh) (Γ3 : Gm) (Ω3 : Om) (t3 : Tr B O0 G s G3 s3) (f3 : Fm B O0 G3 s3 sc env V Γ3 Ω3) (h : run k Γ3 Ω3 = some r) : WInv B O0 G s sc env V run r k s3
theorem for_core (ok : OkS B L rec) (rm : Room L A) {t i : Expr} {b : List Stmt} {pos : Pos} {xs : List D} {r : Rs} {Q : Flow → Shared → Prop} (hset : isSet i = false)
    (hit : ∀ Qi : Value → Shared → Prop, (∀ I G1 s1 s2, Tr B O0 G s G1 s1 → Fm B O0 G1 s1 sc env V Γ' Ω' → s1.heap.objs.size ≤ I → I < s2.heap.objs.size → Ke B G1 s1 G1 s2 → Src B A I { G1 with O := I :: G1.O } s2 xs → Qi (.ref I) s2) → WP B A (eval i env) (fun v s1 => WP B A (pyIter v) Qi E s1) E s)
    (h3 : forD sc t (evSs rec sc b) xs Γ' Ω' = some r) (hQ : PostS B O0 G s sc env V r Q) : WP B A (exec (.For t i b [] pos) env) Q E s := by
  refine ⟨@wpAny_For _ _ _ _ _ _ _ _ _ _ _ (@wpAny_mono _ _ _ _ _ _ _ _ _ (hit _ fun I G1 s1 s2 t1 f1 hI1 hI2 k2 src => ?_).w (fun _ _ x => x.w) fun _ _ x => x) (folded_of hset env)⟩
  have hI0 := f1.st.fresh0 hI1
  have hIt := Mine.not_tb hI0
  have kx : Kx B [] G1 s1 { G1 with O := I :: G1.O } s2 := Kx.own f1.st k2 (fun a ha => (List.mem_cons.mp ha).elim (fun q => .inr (q ▸ ⟨hI1, hI2⟩)) .inl) fun a ha => List.mem_cons_of_mem _ ha
  have f2 : Fm B (I :: O0) { G1 with O := I :: G1.O } s2 sc env V Γ' Ω' := f1.openI kx (fun a => List.mem_cons) hI1
  have t2 : Tr B O0 G s { G1 with O := I :: G1.O } s2 := t1.trans ⟨kx.mono fun _ h => nomatch h⟩
  have hIb : s.heap.objs.size ≤ I := Nat.le_trans t1.kx.sz hI1
  have hc : ∀ y c, env.cells.lookup y = some c → c ≠ I := fun y c hy q => Nat.not_lt.mpr hI1 (q ▸ f1.cz y c hy)
  refine @codeAny_forLoop_any _ _ _ _ _ _ _ _ _ _ (FInv B A O0 G s sc env V I (forD sc t (evSs rec sc b)) r) (fun k s3 hInv => ?_) xs.length ⟨_, xs, Γ', Ω', rfl, t2, f2, src, h3⟩
  obtain ⟨G3, xs3, Γ3, Ω3, hk, t3, f3, src3, h3'⟩ := hInv
  have hI3 : I ∈ G3.O := f3.oo I List.mem_cons_self
  cases xs3 with
  | nil =>
    cases h3'
    refine (src3.done f3.st hIt fun s4 k4 => ?_).w
    exact @wpAny_execs_nil _ _ _ _ _ _ (hQ .next G3 s4 (t3.kwI f3.st k4 hIb) ((f3.kwI k4 hc hI0).closeI hI0) trivial)
  | cons x xs3 =>
    refine (src3.next f3.st hI3 hIt fun v' s4 k4 rv src4 => ?_).w
    have f4 := f3.kwI k4 hc hI0
    have t4 := t3.kwI f3.st k4 hIb
    unfold forD at h3'
    split at h3'
    · first | exact nsd h3' | exact nft h3' | exact ntf h3' | cases h3'
    rename_i Γ4 hb
    refine (go_ok hb src4 ?_).w
    refine (fm_bind rm hb f4 rv fun s5 t5 f5 => ?_).w
    have notW : ∀ G : Gh, I ∉ Wn G (I :: O0) := fun G q => (mem_Wn.mp q).2 List.mem_cons_self
    have src5 := src4.kx t5.kx f4.st (fun a ha => (mem_Wn.mp ha).1) (notW _) hIt
    split at h3'
    · first | exact nsd h3' | exact nft h3' | exact ntf h3' | cases h3'
    rename_i fl Γ6 Ω6 hbody
    refine (ss_ok ok rm hbody f5 fun fw G6 s6 t6 f6 hfl => ?_).w
    have src6 := src5.kx t6.kx f5.st (fun a ha => (mem_Wn.mp ha).1) (notW _) hIt
    have tt := (t4.sub t5).sub t6
    cases fl <;> simp only at h3' <;> (cases fw <;> first | exact False.elim hfl | skip)
    · exact ⟨xs3.length, by rw [← hk]; exact Nat.lt_succ_self _, ⟨G6, xs3, Γ6, Ω6, rfl, tt, f6, src6, h3'⟩⟩
    · cases h3'
      exact hQ .next G6 s6 tt (f6.closeI hI0) trivial
    · exact ⟨xs3.length, by rw [← hk]; exact Nat.lt_succ_self _, ⟨G6, xs3, Γ6, Ω6, rfl, tt, f6, src6, h3'⟩⟩
    · cases h3'
      exact hQ _ G6 s6 tt (f6.closeI hI0) hfl

theorem for_ok (ok : OkS B L rec) (okE : OkE B L ev) (rm : Room L A) {t i : Expr} {b : List Stmt} {pos : Pos} {d : D} {xs : List D} {r : Rs} {Q : Flow → Shared → Prop} (f : Fm B O0 G s sc env V Γ Ω) (hset : isSet i = false)
    (h1 : evF (ev sc) Γ Ω i = some (d, Γ', Ω')) (h2 : iterD d = some xs) (h3 : forD sc t (evSs rec sc b) xs Γ' Ω' = some r) (hQ : PostS B O0 G s sc env V r Q) : WP B A (exec (.For t i b [] pos) env) Q E s :=
  for_core ok rm hset (fun Qi h => eval_okS okE rm f h1 fun v G1 s1 t1 f1 r1 => iter_ok rm f1.st r1 h2 fun I s2 hI1 hI2 k2 src => h I G1 s1 s2 t1 f1 hI1 hI2 k2 src) h3 hQ

theorem while_ok (ok : OkS B L rec) (okT : OkT B L ev) (rm : Room L A) {t : Expr} {b : List Stmt} {pos : Pos} {n : Nat} {r : Rs} {Q : Flow → Shared → Prop} (f : Fm B O0 G s sc env V Γ Ω)
    (h : whileD (ev sc) t (evSs rec sc b) n Γ Ω = some r) (hQ : PostS B O0 G s sc env V r Q) : WP B A (exec (.While t b [] pos) env) Q E s := by
  refine ⟨@wpAny_While _ _ _ _ _ _ _ _ _ _ (@codeAny_whileLoop _ _ _ _ _ _ _ _ _ (WInv B O0 G s sc env V (whileD (ev sc) t (evSs rec sc b)) r) (fun k s3 hInv => ?_) n ⟨G, Γ, Ω, .refl f.st, f, h⟩)⟩
  obtain ⟨G3, Γ3, Ω3, t3, f3, h3⟩ := hInv
  cases k with
  | zero => first | exact nsd h3 | exact nft h3 | exact ntf h3 | cases h3
  | succ k =>
    unfold whileD at h3
    split at h3
    · first | exact nsd h3 | exact nft h3 | exact ntf h3 | cases h3
    rename_i c Γ4 Ω4 ht
    refine (test_okS okT rm f3 ht fun G4 s4 t4 f4 => ?_).w
    cases c <;> simp only at h3
    · cases h3
      rw [if_neg (by simp)]
      exact @wpAny_execs_nil _ _ _ _ _ _ (hQ .next G4 s4 (t3.trans t4) f4 trivial)
    · rw [if_pos rfl]
      split at h3
      · first | exact nsd h3 | exact nft h3 | exact ntf h3 | cases h3
      rename_i fl Γ6 Ω6 hbody
      refine (ss_ok ok rm hbody f4 fun fw G6 s6 t6 f6 hfl => ?_).w
      have tt := (t3.trans t4).trans t6
      cases fl <;> simp only at h3 <;> (cases fw <;> first | exact False.elim hfl | skip)
      · exact ⟨k, Nat.lt_succ_self _, ⟨G6, Γ6, Ω6, tt, f6, h3⟩⟩
      · cases h3
        exact hQ .next G6 s6 tt f6 trivial
      · exact ⟨k, Nat.lt_succ_self _, ⟨G6, Γ6, Ω6, tt, f6, h3⟩⟩
      · cases h3
        exact hQ _ G6 s6 tt f6 hfl

theorem if_ok (ok : OkS B L rec) (okT : OkT B L ev) (rm : Room L A) {t : Expr} {b o : List Stmt} {pos : Pos} {c : Bool} {r : Rs} {Q : Flow → Shared → Prop} (f : Fm B O0 G s sc env V Γ Ω) (ht : testD (ev sc) Γ Ω t = some (c, Γ', Ω'))
    (h : evSs rec sc (match c with | true => b | false => o) Γ' Ω' = some r) (hQ : PostS B O0 G s sc env V r Q) : WP B A (exec (.If t b o pos) env) Q E s := by
  refine ⟨@wpAny_If _ _ _ _ _ _ _ _ _ _ (test_okS okT rm f ht fun G1 s1 t1 f1 => ?_).w⟩
  cases c
  · rw [if_neg (by simp)]; exact (ss_ok ok rm h f1 (hQ.after t1)).w
  · rw [if_pos rfl]; exact (ss_ok ok rm h f1 (hQ.after t1)).w
end
end Mine

end
section
open PySem PySem.W PyProof.Rows
set_option Elab.async false
namespace Mine

section
variable {B : Bs} {A : Around} {O0 : List Addr} {G G' G'' Gb : Gh} {s s' s'' sb : Shared} {sc : Kd} {env : Env} {V : List Addr} {Γ Γ' : Gm} {Ω Ω' : Om} {E : Value → Shared → Prop} {L : Nat} {X : Nv} {rec : Sv} {I : Addr}

theorem assign_plain {t v : Expr} {pos : Pos} {Q : Flow → Shared → Prop} (hs : swapsWith v (some t) pos.line env = pure false) (hw : swappedStores [t] v env = pure none) (ht : (assignEach [t] env).map (·.2) = [assign t env])
    (h : WP B A (eval v env) (fun w s1 => WP B A (assign t env w) (fun _ => Q .next) E s1) E s) : WP B A (exec (.Assign [t] v pos) env) Q E s := by
  refine ⟨@wpAny_Assign_stores _ _ _ _ _ _ _ _ _ ?_ hs hw⟩
  rw [ht]
  exact @wpAny_mono _ _ _ _ _ _ _ _ _ h.w (fun _ _ x => x.w) fun _ _ x => x

noncomputable def isComp (e : Expr) : Bool := Nat.beq e.ctorIdx 8 || (Nat.beq e.ctorIdx 9 || Nat.beq e.ctorIdx 10)
theorem swaps_not {v t : Expr} {line : Nat} (h : isComp v = false) : swapsWith v (some t) line env = pure false := by
  cases v <;> first | exact ntf h | rfl

theorem own_ok (nv : NvOk B L X) (rm : Room L A) {n : Nat} {x : Str} {px lp pos : Pos} {es : List Expr} {ds : List D} {Q : Flow → Shared → Prop} (f : Fm B O0 G s sc env V Γ Ω) (hx : storable sc x = true)
    (h : evF (evE X n sc) Γ Ω (.List es lp) = some (.lst ds, Γ', Ω')) (hQ : PostS B O0 G s sc env V (.nxt, del Γ' x, putA Ω' x (.lst ds)) Q) : WP B A (exec (.Assign [.Name x px] (.List es lp) pos) env) Q E s := by
  obtain ⟨G1, t1, f1, hev⟩ := evF_ok f h
  cases n with
  | zero => first | exact nsd hev | exact nft hev | exact ntf hev | cases hev
  | succ n =>
    have hev : evE1 X (evE X n) sc Γ' (.List es lp) = some (.lst ds) := hev
    unfold evE1 at hev; dsimp only at hev
    split at hev
    · first | exact nsd hev | exact nft hev | exact ntf hev | cases hev
    rename_i ds' hds
    split at hev
    · rename_i hl
      cases hev
      have hl := Nat.le_of_ble_eq_true hl
      refine assign_plain rfl rfl rfl ⟨@wpAny_List_spliced _ _ _ _ _ _ _ _ _ (each_ok (evE_ok nv n).1 rm f1.kn hds f1.se fun vs G2 s2 k2 r2 => ⟨by rw [r2.length, sizeLine_eq]; omega, ?_⟩).w⟩
      have st2 := f1.st.ke k2
      have kp : Ke B G2 s2 G2 { s2 with heap := s2.heap.push { cls := .type "list", data := .seq vs.toArray } } := Ke.push st2 _ (Nat.le_refl _)
      refine ⟨@wpAny_assign_Name _ _ _ _ _ _ _ _ _ (f1.newOwn (x := x) (as := [s2.heap.objs.size]) (Z := []) (k2.trans kp) (fun b hb => ?_) (fun _ _ h => nomatch h) (.lst (Heap.get?_push_size _ rfl) ?_) hx fun s3 _ t3 f3 => hQ .next _ s3 (t1.trans t3) f3 trivial).w⟩
      · rw [List.mem_singleton.mp hb]
        refine ⟨k2.sz, ?_⟩
        show s2.heap.objs.size < (s2.heap.push _).objs.size
        rw [Heap.size_push]; exact Nat.lt_succ_self _
      · exact RdL.up (G := G2) (h := s2.heap) (G' := { G2 with O := [s2.heap.objs.size] ++ G2.O }) ⟨Kp.push _ _ _, fun a ha => (List.mem_append.mp ha).elim (fun q => .inr (List.mem_singleton.mp q ▸ get_size_none _)) .inl, Nat.le_refl _, fun _ _ => rfl⟩ (by simpa using r2)
    · first | exact nsd hev | exact nft hev | exact ntf hev | cases hev

theorem usecomp_ok (nv : NvOk B L X) (rm : Room L A) {n : Nat} {x : Str} {px cp pos : Pos} {elt : Expr} {gens : List Comprehension} {scope : Scope} {d : D} {Q : Flow → Shared → Prop} (f : Fm B O0 G s sc env V Γ Ω) (hx : storable sc x = true)
    (h : evF (evE X n sc) Γ Ω (.ListComp elt gens scope cp) = some (d, Γ', Ω')) (hQ : PostS B O0 G s sc env V (.nxt, put Γ' x d, del Ω' x) Q)
    (hs : swapsWith (.ListComp elt gens scope cp) (some (.Name x px)) pos.line env = pure true) : WP B A (exec (.Assign [.Name x px] (.ListComp elt gens scope cp) pos) env) Q E s := by
  obtain ⟨G1, t1, f1, hev⟩ := evF_ok f h
  cases n with
  | zero => first | exact nsd hev | exact nft hev | exact ntf hev | cases hev
  | succ n =>
    have hev : compD (evE X n) sc Γ' elt gens scope = some d := hev
    obtain ⟨g, gs, out, rfl, rfl, has⟩ := compD_lst hev
    have hfa : firstAsync (g :: gs) = false := by
      obtain ⟨a, b, c, e⟩ := g
      have : e = 0 := has
      subst this; rfl
    rw [exec_Assign_Name_used _ _ _ _ hs]
    refine WP.bind (WP.standAt (WP.bind ?_))
    show WP B A (do let _ ← comprehension (.ListComp elt (g :: gs) scope cp) scope env (firstIterPos (g :: gs) cp) (newList []) (firstAsync (g :: gs)) (firstIter (g :: gs) env) (some (assign (.Name x px) env))) _ E s
    rw [hfa]
    obtain ⟨target, iter, ifs, as⟩ := g
    refine WP.bind (comp_core (g := ⟨target, iter, ifs, as⟩) (use := some (assign (.Name x px) env)) (Q := fun _ s' => WP B A (pure ()) (fun _ s'' => WP B A (pure Flow.next) Q E s'') E s') (evE_ok nv n).1 (evE_ok nv n).2 rm f1.kn f1.se hev fun G2 s2 acc C items m kx hsub hacc hC haO hCO hne hl rl hns => ?_)
    have st2 := kx.st f1.st (fun _ h => nomatch h)
    have hCt : C ∉ B.tb := Mine.not_tb (f1.st.fresh0 hC)
    have hsub2 : ∀ a ∈ C :: G1.O, a ∈ G2.O := fun a ha => (List.mem_cons.mp ha).elim (fun q => q ▸ hCO) (hsub a)
    have kx3 : Kx B [] G1 s { G2 with O := C :: G1.O } s2 := kx.free hsub2 fun a ha => List.mem_cons_of_mem _ (f1.st.sub a ha)
    have f3 : Fm B (C :: O0) { G2 with O := C :: G1.O } s2 sc env V Γ' Ω' := f1.openI kx3 (fun a => List.mem_cons) hC
    have hc : ∀ y c, env.cells.lookup y = some c → c ≠ C := fun y c hy q => Nat.not_lt.mpr hC (q ▸ f1.cz y c hy)
    have r3 : Rd { G2 with O := C :: G1.O } s2.heap (.ref acc) (.lst out) := .lst (n := m) (fun q => (List.mem_cons.mp q).elim hne (f1.st.fresh hacc)) hl (rl.up (Up.free hsub2))
    show wpAny B.M A (assign (.Name x px) env (.ref acc)) _ E s2
    refine @wpAny_assign_Name _ _ _ _ _ _ _ _ _ (f3.stored hx r3 fun s4 t4 f4 => ?_).w
    obtain ⟨mm, hm⟩ := hns
    have hm4 : s4.heap.Ns C mm := t4.kx.kw.kp.ns (fun q => (List.mem_append.mp q).elim (fun q => (mem_Wn.mp q).2 List.mem_cons_self) hCt) hm
    refine ⟨mm, hm4, fun h' hs' => WP.pure (WP.pure ?_)⟩
    have k5 : Kw B [C] { G2 with O := C :: G1.O } s4 { G2 with O := C :: G1.O } { s4 with heap := h' } := Kw.same1 f4.st (List.mem_singleton.mpr rfl) hCt hs' (Nat.le_refl _) (.ns hm4)
    have h0 := f1.st.fresh0 hC
    have t3 : Tr B O0 G s { G2 with O := C :: G1.O } s2 := t1.trans ⟨kx3.mono fun _ h => nomatch h⟩
    exact hQ .next _ _ ((t3.sub t4).kwI f4.st k5 (Nat.le_trans t1.kx.sz hC)) ((f4.kwI k5 hc h0).closeI h0) trivial

theorem name_assign_ok (nv : NvOk B L X) (rm : Room L A) {n : Nat} {x : Str} {px pos : Pos} {v : Expr} {d : D} {Q : Flow → Shared → Prop} (f : Fm B O0 G s sc env V Γ Ω) (hx : storable sc x = true)
    (h : evF (evE X n sc) Γ Ω v = some (d, Γ', Ω')) (hQ : PostS B O0 G s sc env V (.nxt, put Γ' x d, del Ω' x) Q) : WP B A (exec (.Assign [.Name x px] v pos) env) Q E s := by
  have plain : swapsWith v (some (.Name x px)) pos.line env = pure false → WP B A (exec (.Assign [.Name x px] v pos) env) Q E s := fun hs => by
    refine assign_plain hs (by cases v <;> rfl) rfl (eval_okS (evE_ok nv n).1 rm f h fun w G1 s1 t1 f1 r1 => ⟨@wpAny_assign_Name _ _ _ _ _ _ _ _ _ (f1.stored hx r1 fun s2 t2 f2 => hQ .next G1 s2 (t1.trans t2) f2 trivial).w⟩)
  cases hc : isComp v with
  | false => exact plain (swaps_not hc)
  | true =>
    cases v <;> first | exact nft hc | skip
    case ListComp elt gens scope cp =>
      have e : ∃ b, swapsWith (.ListComp elt gens scope cp) (some (.Name x px)) pos.line env = pure b := ⟨_, rfl⟩
      obtain ⟨b, hb⟩ := e
      cases b with
      | false => exact plain hb
      | true => exact usecomp_ok nv rm f hx h hQ hb
    all_goals
      obtain ⟨G1, t1, f1, hev⟩ := evF_ok f h
      cases n <;> cases hev

theorem aug_ok (nv : NvOk B L X) (rm : Room L A) {n : Nat} {x : Str} {px pos : Pos} {op : Operator} {v : Expr} {r : Rs} {Q : Flow → Shared → Prop} (f : Fm B O0 G s sc env V Γ Ω) (h : augD (evE X n sc) sc Γ Ω x op v = some r) (hQ : PostS B O0 G s sc env V r Q) :
    WP B A (exec (.AugAssign (.Name x px) op v pos) env) Q E s := by
  unfold augD at h
  split at h
  · first | exact nsd h | exact nft h | exact ntf h | cases h
  rename_i hx
  split at h
  · first | exact nsd h | exact nft h | exact ntf h | cases h
  rename_i hcd
  split at h
  · first | exact nsd h | exact nft h | exact ntf h | cases h
  rename_i a ha
  split at h
  · first | exact nsd h | exact nft h | exact ntf h | cases h
  rename_i b hb
  split at h
  · first | exact nsd h | exact nft h | exact ntf h | cases h
  rename_i d hd
  cases h
  have ld : ∀ {Q : Value → Shared → Prop}, Post B G s a Q → WP B A (loadName env x) Q E s := fun hq => by
    rcases storable_iff hx with q | q
    · exact load_loc f.se (f.ow.kl x q) ha hq
    · exact load_cel f.se (by rw [(f.ow.cel x q).1]; rfl) ha (not_eq hcd) hq
  refine ⟨@wpAny_AugAssign_Name _ _ _ _ _ _ _ _ _ _ _ (ld fun ov G1 s1 k1 r1 => ((evE_ok nv n).1 sc Γ v b hb A G1 s1 env E _ rm f.kn (f.se.ke k1) fun w G2 s2 k2 r2 => ?_).w).w⟩
  refine (inpOp_ok ((f.st.ke k1).ke k2) (r1.ke (f.st.ke k1) k2) r2 hd fun nw G3 s3 k3 r3 => ?_).w
  have k := (k1.trans k2).trans k3
  exact ((f.ke k).stored hx r3 fun s4 t4 f4 => hQ .next G3 s4 ((Tr.ke f.st k).trans t4) f4 trivial).w
end
end Mine

end
section
open PySem PySem.W PyProof.Rows
set_option Elab.async false
namespace Mine

section
variable {B : Bs} {A : Around} {O0 : List Addr} {G G' G'' Gb : Gh} {s s' s'' sb : Shared} {sc : Kd} {env : Env} {V : List Addr} {Γ Γ' : Gm} {Ω Ω' : Om} {E : Value → Shared → Prop} {L : Nat} {X : Nv} {rec : Sv} {I : Addr}

theorem tuple_assign_ok (nv : NvOk B L X) (rm : Room L A) {n : Nat} {ts : List Expr} {k : Nat} {tp pos : Pos} {v : Expr} {d : D} {Γ2 : Gm} {Q : Flow → Shared → Prop} (f : Fm B O0 G s sc env V Γ Ω) (hv : isTup v = false)
    (h : evF (evE X n sc) Γ Ω v = some (d, Γ', Ω')) (hb : bindT sc (.Tuple ts k tp) d Γ' = some Γ2) (hQ : PostS B O0 G s sc env V (.nxt, Γ2, delT Ω' (.Tuple ts k tp)) Q) : WP B A (exec (.Assign [.Tuple ts k tp] v pos) env) Q E s := by
  have hs : swapsWith v (some (.Tuple ts k tp)) pos.line env = pure false := by cases v <;> rfl
  have hw : swappedStores [.Tuple ts k tp] v env = pure none := by cases v <;> first | exact ntf hv | rfl
  exact assign_plain hs hw rfl (eval_okS (evE_ok nv n).1 rm f h fun w G1 s1 t1 f1 r1 => fm_bind rm hb f1 r1 fun s2 t2 f2 => hQ .next G1 s2 (t1.trans t2) f2 trivial)

structure SwC (sc : Kd) (x y : Str) (p q : Pos) (v1 v2 : Expr) : Prop where
  lx : look sc x = some .local
  ly : look sc y = some .local
  hl : (q.line == p.line) = true
  ne : strEq x y = false
  s1 : isStar v1 = false
  s2 : isStar v2 = false
  c1 : [v1, v2].all (foldedForSure 8) = false
  c2 : [v1, v2].all (constantsAlone 8) = false
theorem SwC.of {x y : Str} {p q : Pos} {v1 v2 : Expr} (h : swapC sc x y p q v1 v2 = true) : SwC sc x y p q v1 v2 :=
  have h1 := Bool.and_eq_true_iff.mp h
  have h2 := Bool.and_eq_true_iff.mp h1.2
  have h3 := Bool.and_eq_true_iff.mp h2.2
  have h4 := Bool.and_eq_true_iff.mp h3.2
  have h5 := Bool.and_eq_true_iff.mp h4.2
  have h6 := Bool.and_eq_true_iff.mp h5.2
  have h7 := Bool.and_eq_true_iff.mp h6.2
  ⟨of_decide_eq_true h1.1, of_decide_eq_true h2.1, h3.1, bnot h4.1, bnot h5.1, bnot h6.1, bnot h7.1, bnot h7.2⟩
theorem swapped (ow : Own B G s sc env V) (hk : env.blockKind = .function) {x y : Str} {p q tp vp : Pos} {v1 v2 : Expr} {k k' : Nat} (c : SwC sc x y p q v1 v2) : swappedStores [.Tuple [.Name x p, .Name y q] k tp] (.Tuple [v1, v2] k' vp) env = pure (some [x, y]) := by
  have star : ∀ {v : Expr}, isStar v = false → (match v with | .Starred .. => true | _ => false) = false := fun {v} h => by cases v <;> first | rfl | exact h
  have hn : [Expr.Name x p, Expr.Name y q].filterMap (fun | .Name id pos => if env.kindOf id == some .local && pos.line == p.line then some id else none | _ => none) = [x, y] := by
    rw [List.filterMap_cons, List.filterMap_cons]
    dsimp only
    rw [ow.kl x c.lx, ow.kl y c.ly, c.hl, beq_self_eq_true p.line]; rfl
  have hd : ∀ l : List Str, l = [x, y] → (l.length != 2 || l.eraseDups.length != l.length) = false := fun l hl => by
    rw [hl]
    have : [x, y].eraseDups = [x, y] := by
      rw [List.eraseDups_cons, List.filter_cons_of_pos (by rw [bnot (b := y == x) (by rw [Bool.not_eq_true', beq_eq_false_iff_ne]; exact fun e => nft (c.ne.symm.trans (strEq_iff.mpr e.symm)))]; rfl)]; rfl
    rw [this]; rfl
  unfold swappedStores
  refine (if_neg fun h => ?_).trans ((if_neg fun h => ?_).trans ((if_neg fun h => ?_).trans ((if_neg fun h => ?_).trans ((if_neg fun h => ?_).trans ?_))))
  · rw [hk] at h; exact nft h
  · exact (by decide : ∀ a b : Bool, a = false → b = false → (a || (b || false)) = true → False) _ _ (star c.s1) (star c.s2) h
  · exact nft ((hd _ hn).symm.trans h)
  · exact nft (c.c1.symm.trans h)
  · exact nft (c.c2.symm.trans h)
  · exact congrArg (fun l => (pure (some l) : Sem (Option (List Str)))) hn

theorem RdL.reverse {G : Gh} {h : Heap} : ∀ {ds : List D} {vs : List Value}, RdL G h vs ds → RdL G h vs.reverse ds.reverse
  | [], _, r => r.nilK .nil
  | _ :: _, _, r => r.consK fun _ _ x y => by rw [List.reverse_cons, List.reverse_cons]; exact (RdL.reverse y).snoc x

theorem stor_loc {x : Str} (h : look sc x = some .local) : storable sc x = true := by unfold storable; rw [h]
theorem swap_assign_ok (nv : NvOk B L X) (rm : Room L A) {n : Nat} {x y : Str} {ts vs : List Expr} {k k' : Nat} {tp vp pos : Pos} {d1 d2 : D} {Q : Flow → Shared → Prop} (f : Fm B O0 G s sc env V Γ Ω) (lx : storable sc x = true) (ly : storable sc y = true)
    (hsw : swappedStores [.Tuple ts k tp] (.Tuple vs k' vp) env = pure (some [x, y])) (h : evF (evE X n sc) Γ Ω (.Tuple vs k' vp) = some (.tup [d1, d2], Γ', Ω')) (hQ : PostS B O0 G s sc env V (.nxt, put (put Γ' y d2) x d1, del (del Ω' y) x) Q) :
    WP B A (exec (.Assign [.Tuple ts k tp] (.Tuple vs k' vp) pos) env) Q E s := by
  rw [exec_Assign_arm]
  refine WP.bind (WP.standAt (WP.bind (WP.pure (a := false) ?_)))
  rw [if_neg (by simp)]
  refine WP.bind (eval_okS (evE_ok nv n).1 rm f h fun w G1 s1 t1 f1 r1 => ?_)
  rw [hsw]
  refine WP.bind (WP.pure ?_)
  unfold assignStores
  refine WP.bind (WP.rule ?_)
  refine r1.tupK fun a items m ha hl hd => ?_
  rw [show [x, y].length = [d1, d2].length from rfl]
  refine WP.bind (unpackItems_ok rm f1.st hl hd fun s2 k2 => ?_)
  have f2 := f1.ke k2
  obtain ⟨w1, w2, e, q1, q2⟩ := (hd.ke f1.st k2).two
  rw [e]
  refine WP.bind ?_
  show WP B A (do holding [w1] (bindName env y w2); assignInOrder [bindName env x] [w1]) _ _ s2
  refine WP.bind (WP.holding ⟨@wpAny_bindName _ _ _ _ _ _ _ _ (f2.stored ly q2 fun s3 t3 f3 => ?_).w⟩)
  show WP B A (do holding [] (bindName env x w1); pure ()) _ _ s3
  refine WP.bind (WP.holding ⟨@wpAny_bindName _ _ _ _ _ _ _ _ (f3.stored lx (q1.up (t3.up f2.st)) fun s4 t4 f4 => ?_).w⟩)
  exact WP.pure (WP.pure (hQ .next G1 s4 (((t1.trans (Tr.ke f1.st k2)).trans t3).trans t4) f4 trivial))

theorem load_own {x : Str} {px : Pos} {a : Addr} {Γp : Gm} {Q : Value → Shared → Prop} (f : Fm B O0 G s sc env V Γ Ω) (sep : Sees B G s env Γp) (hp : look Γp x = some (.ref a)) (hx : storable sc x = true) (hdb : strEq x "__debug__" = false) (hq : Q (.ref a) s) : WP B A (eval (.Name x px) env) Q E s := by
  rcases storable_iff hx with q | q
  · obtain ⟨mm, hmm, hh⟩ := sep.ns
    obtain ⟨v, hv, r⟩ := hh x _ hp (f.ow.kl x q)
    obtain rfl := r.refI
    exact ⟨@wpAny_Name _ _ _ _ _ _ _ _ (@wpAny_loadName_local _ _ _ _ _ _ _ _ _ sep.kind (f.ow.kl x q) hmm hv hq) (not_eq hdb)⟩
  · have hk := (f.ow.cel x q).1
    obtain ⟨c, hc, _, _, hh⟩ := sep.cl x (by rw [hk]; rfl)
    obtain ⟨v, hv, r⟩ := hh _ hp
    obtain rfl := r.refI
    exact ⟨@wpAny_Name _ _ _ _ _ _ _ _ (@wpAny_loadName_cell _ _ _ _ _ _ _ _ _ sep.kind hk hc hv hq) (not_eq hdb)⟩
theorem interactive_no (f : Fm B O0 G s sc env V Γ Ω) : interactive env = false := by unfold interactive; rw [f.se.kind]; rfl
theorem appendD_inv {P : Prop} {ev : Gm → Expr → Option D} {x m : Str} {apos cpos : Pos} {e : Expr} {r : Rs} (h : appendD ev sc Γ Ω x m apos cpos e = some r)
    (k : m = "append" → strEq x "__debug__" = false → (apos.endLine == cpos.line) = true → isStar e = false → storable sc x = true → ∀ ds d, look Ω x = some (.lst ds) → ev Γ e = some d → ds.length ≤ 900 → (.nxt, Γ, putA Ω x (.lst (ds ++ [d]))) = r → P) : P := by
  obtain ⟨hc, h⟩ := tst_inv h
  have c1 := Bool.and_eq_true_iff.mp hc
  have c2 := Bool.and_eq_true_iff.mp c1.2
  have c3 := Bool.and_eq_true_iff.mp c2.2
  have c4 := Bool.and_eq_true_iff.mp c3.2
  have c5 := Bool.and_eq_true_iff.mp c4.2
  obtain ⟨o, ho, h⟩ := bnd h
  obtain ⟨ds, hds, h⟩ := bnd h
  obtain ⟨d, hd, h⟩ := bnd h
  obtain ⟨hl, h⟩ := tst_inv h
  exact k (strEq_iff.mp c1.1) (bnot c2.1) c4.1 (bnot c5.1) c5.2 ds d (ho.trans (congrArg some (lstO_eq hds))) hd (Nat.le_of_ble_eq_true hl) (Option.some.inj h)
theorem append_ok (nv : NvOk B L X) (rm : Room L A) {n : Nat} {x m : Str} {px apos cpos pos : Pos} {e : Expr} {r : Rs} {Q : Flow → Shared → Prop} (f : Fm B O0 G s sc env V Γ Ω)
    (h : appendD (evE X n sc) sc Γ Ω x m apos cpos e = some r) (hQ : PostS B O0 G s sc env V r Q) : WP B A (exec (.Expr (.Call (.Attribute (.Name x px) m apos) [e] [] cpos) pos) env) Q E s := by
  refine appendD_inv h fun hm hdb hline hstar hx ds d hds hd hlen hr => ?_
  subst hm
  subst hr
  have hi := interactive_no f
  rw [exec_Expr env _ _ hi rfl]
  refine WP.bind (WP.standAt (WP.bind ?_))
  -- the owned list's address
  obtain ⟨a, as, own, ⟨Γp, sep, hp, _⟩, _, turn⟩ := f.turn hds
  obtain ⟨od, _⟩ := turn G s (.refl f.st)
  obtain ⟨items, k, rfl, hl, rl⟩ := od.lstI
  rw [arm_eval_Call]
  refine WP.bind (load_own f sep hp hx hdb ?_)
  refine WP.bind (WP.standAt ?_)
  have hst : starEach [e] env = [(false, eval e env)] := star_plain hstar
  rw [hst]
  have hform : methodCallForm ([e].length + ([] : List Keyword).length) (backTo cpos [(false, eval e env)]) (backToKw cpos (keywordEach [] env)) = true := rfl
  unfold methodCall calleeOf
  rw [hform, if_pos rfl]
  refine WP.bind (WP.holding ⟨@getMethod_builtin _ _ _ _ _ _ _ _ _ _ (LstAt.is hl).typeIs F.plainAttrs_list slot_list_append (by rfl) (fun b hb => Value.ref.inj hb ▸ ⟨_, hl, rfl⟩) ?_⟩)
  rw [mpos_ok hline]
  refine WP.bind (WP.pure ?_)
  have heach : each (evE X n sc Γ) [e] = some [d] := by simp only [each, hstar, hd]
  have hsp := each_ok (env := env) (A := A) (E := E) (pos := cpos) (evE_ok nv n).1 rm f.kn heach f.se (Q := fun vs s' => (∃ G', St B G' s') ∧ WP B A (call (.builtin "list.append") ([.ref a] ++ vs)) (fun v s'' => WP B A (dropValue (.Call (.Attribute (.Name x px) "append" apos) [e] [] cpos) pos v) Q E s'') E s') fun vs G1 s1 k1 r1 => ?_
  · rw [hst] at hsp
    exact callWith_ok (.builtin _) rfl hsp
  · refine ⟨⟨G1, f.st.ke k1⟩, ?_⟩
    obtain ⟨vv, rfl, rv⟩ := r1.one
    obtain ⟨od1, turn1⟩ := turn G1 s1 k1
    obtain ⟨items1, k1', _, hl1, rl1⟩ := od1.lstI
    have hasz : items1.size ≤ sizeLine := by rw [rl1.size, sizeLine_eq]; exact Nat.le_trans hlen (by decide)
    have hO1 : a ∈ G1.O := by rw [k1.o]; exact (own a List.mem_cons_self).1
    have ht : a ∉ B.tb := fun q => (own a List.mem_cons_self).2.1 (f.tb a q)
    refine ⟨@wpAny_list_append_plain _ _ _ _ _ _ _ _ _ ⟨_, hl1⟩ (fun h' hp' hs' => ?_) hasz⟩
    obtain ⟨n', hp'⟩ := hp'
    have st1 := f.st.ke k1
    have kw : Kw B [a] G1 s1 G1 { s1 with heap := h' } := Kw.same1 st1 (List.mem_singleton.mpr rfl) ht hs' (Nat.le_refl _) hl1.nc
    have up := kw.up st1 (fun b hb => by rw [List.mem_singleton.mp hb]; exact hO1)
    obtain ⟨t2, f2⟩ := turn1 _ (.lst (ds ++ [d])) kw (.lst hp' (by rw [Array.toList_push]; exact (rl1.up up).snoc (rv.up up)))
    exact WP.pure (hQ .next G1 _ t2 f2 trivial)

theorem drop_ok (nv : NvOk B L X) (rm : Room L A) {n : Nat} {g : Expr} {args : List Expr} {k : Keyword} {ks : List Keyword} {cpos pos : Pos} {r : Rs} {Q : Flow → Shared → Prop} (f : Fm B O0 G s sc env V Γ Ω)
    (h : dropD (evE X n sc) Γ Ω (.Call g args (k :: ks) cpos) = some r) (hQ : PostS B O0 G s sc env V r Q) : WP B A (exec (.Expr (.Call g args (k :: ks) cpos) pos) env) Q E s := by
  obtain ⟨⟨d, Γ1, Ω1⟩, h1, h⟩ := bnd h
  obtain ⟨x, hx, h⟩ := bnd h
  rw [← Option.some.inj h] at hQ
  have hi : interactive env = false := by unfold interactive; rw [f.se.kind]; rfl
  rw [exec_Expr env _ _ hi rfl]
  refine WP.bind (WP.standAt (WP.bind (eval_okS (evE_ok nv n).1 rm f h1 fun v G1 s1 t1 f1 r1 => ?_)))
  have hd : dropValue (.Call g args (k :: ks) cpos) pos v = pure .next := by
    rw [strOf1_eq (show strOf1 d = some x from hx)] at r1
    exact r1.strK fun _ => rfl
  rw [hd]
  exact WP.pure (hQ .next G1 s1 t1 f1 trivial)
end
end Mine

end
section
open PySem PySem.W PyProof.Rows
set_option Elab.async false
namespace Mine

section
variable {B : Bs} {L : Nat} {X : Nv} {rec : Sv} {H : Hk}

theorem isLst_some {v : Expr} (h : isLst v = true) : ∃ es p, v = .List es p := by
  unfold isLst at h
  cases hq : lstEO v with
  | none => rw [hq] at h; exact nft h
  | some p => exact ⟨_, _, lstEO_eq hq⟩
section
variable {A : Around} {O0 : List Addr} {G : Gh} {s : Shared} {sc : Kd} {env : Env} {V : List Addr} {Γ : Gm} {Ω : Om} {E : Value → Shared → Prop} {m : Nat} {r : Rs} {Q : Flow → Shared → Prop}
theorem asg_name (nv : NvOk B L X) (rm : Room L A) (f : Fm B O0 G s sc env V Γ Ω) (hQ : PostS B O0 G s sc env V r Q) {x : Str} {px pos : Pos} {v : Expr} (h : assignD (evE X m) sc Γ Ω (.Name x px) v = some r) : WP B A (exec (.Assign [.Name x px] v pos) env) Q E s := by
  unfold assignD at h; dsimp only at h
  split at h
  · exact nsd h
  · rename_i hx
    split at h
    · rename_i hl
      obtain ⟨es, p, rfl⟩ := isLst_some hl
      split at h
      · rename_i h1
        exact own_ok nv rm f hx h1 (Option.some.inj h ▸ hQ)
      · exact nsd h
    · split at h
      · rename_i h1
        exact name_assign_ok nv rm f hx h1 (Option.some.inj h ▸ hQ)
      · exact nsd h
theorem asg_tup (nv : NvOk B L X) (rm : Room L A) (f : Fm B O0 G s sc env V Γ Ω) (hQ : PostS B O0 G s sc env V r Q) {ts : List Expr} {k : Nat} {tp pos : Pos} {v : Expr} (ht : isTup v = false) (h : tupD (evE X m) sc Γ Ω (.Tuple ts k tp) v = some r) : WP B A (exec (.Assign [.Tuple ts k tp] v pos) env) Q E s := by
  unfold tupD at h
  split at h
  · rename_i h1
    split at h
    · rename_i hb
      exact tuple_assign_ok nv rm f ht h1 hb (Option.some.inj h ▸ hQ)
    · exact nsd h
  · exact nsd h
theorem asg_swap (nv : NvOk B L X) (rm : Room L A) (f : Fm B O0 G s sc env V Γ Ω) (hQ : PostS B O0 G s sc env V r Q) {ts vs : List Expr} {k k' : Nat} {tp vp pos : Pos} (h : swapD (evE X m) sc Γ Ω ts (.Tuple vs k' vp) vs = some r) : WP B A (exec (.Assign [.Tuple ts k tp] (.Tuple vs k' vp) pos) env) Q E s := by
  obtain ⟨n, hn, h⟩ := bnd h
  obtain ⟨e, h1, h⟩ := bnd h
  obtain ⟨d, h2, h⟩ := bnd h
  obtain ⟨ds, h3, h2⟩ := bnd h2
  rw [← Option.some.inj h] at hQ
  obtain ⟨t, ht, hn⟩ := bnd hn
  obtain ⟨v, hv, hn⟩ := bnd hn
  obtain ⟨x, hx, hn⟩ := bnd hn
  obtain ⟨y, hy, hn⟩ := bnd hn
  obtain ⟨c, hn⟩ := tst_inv hn
  rw [← Option.some.inj hn] at hQ
  obtain ⟨p, hp⟩ := nameOf_some hx
  obtain ⟨q, hq⟩ := nameOf_some hy
  rw [hp, hq] at c
  have c := SwC.of c
  refine swap_assign_ok nv rm f (stor_loc c.lx) (stor_loc c.ly) ?_ (h1.trans (congrArg some (Prod.ext ((tupOf1_eq h3).trans (congrArg D.tup (duo_eq h2))) rfl))) hQ
  rw [duo_eq ht, duo_eq hv, hp, hq]
  exact swapped f.ow (by unfold Env.blockKind; rw [f.se.kind]; rfl) c
theorem isTup_or (v : Expr) : (∃ vs k p, v = .Tuple vs k p) ∨ isTup v = false := by
  unfold isTup
  cases h : tupO v with
  | none => exact .inr rfl
  | some p => exact .inl ⟨_, _, _, tupO_eq h⟩
theorem asg_any (nv : NvOk B L X) (rm : Room L A) (f : Fm B O0 G s sc env V Γ Ω) (hQ : PostS B O0 G s sc env V r Q) {t v : Expr} {pos : Pos} (h : assignD (evE X m) sc Γ Ω t v = some r) : WP B A (exec (.Assign [t] v pos) env) Q E s := by
  cases t <;> first | exact nsd h | skip
  case Name x px => exact asg_name nv rm f hQ h
  case Tuple ts k tp =>
    rcases isTup_or v with ⟨vs, k', vp, rfl⟩ | ht
    · exact asg_swap nv rm f hQ h
    · refine asg_tup (m := m) nv rm f hQ ht ?_
      unfold assignD at h; dsimp only at h; rw [ht] at h; exact h
theorem expr_any (nv : NvOk B L X) (rm : Room L A) (f : Fm B O0 G s sc env V Γ Ω) (hQ : PostS B O0 G s sc env V r Q) {e : Expr} {pos : Pos} (h : exprD (evE X m) sc Γ Ω e = some r) : WP B A (exec (.Expr e pos) env) Q E s := by
  obtain ⟨⟨g, args, kws, cpos⟩, hk, h⟩ := bnd h
  obtain rfl := calO_eq hk
  cases kws with
  | cons => exact drop_ok nv rm f h hQ
  | nil =>
    obtain ⟨⟨o, mm, apos⟩, ha, h⟩ := bnd h
    obtain ⟨x, hx, h⟩ := bnd h
    obtain ⟨y, hy, h⟩ := bnd h
    obtain ⟨p, e⟩ := nameOf_some hx
    obtain rfl := attO_eq ha
    rw [solo_eq hy]
    rw [show o = _ from e]
    exact append_ok nv rm f h hQ
theorem evB_ok (nv : NvOk B L X) (ok : OkS B L rec) (m k : Nat) (rm : Room L A) (f : Fm B O0 G s sc env V Γ Ω) (hQ : PostS B O0 G s sc env V r Q) {st : Stmt} (h : evB (evE X m) k rec sc Γ Ω st = some r) : WP B A (exec st env) Q E s := by
  have okE := (evE_ok nv m).1
  have okT := (evE_ok nv m).2
  cases st <;> first | exact nsd h | skip
  case Return e pos =>
    cases e with
    | none => exact ⟨@wpAny_Return_none _ _ _ _ _ _ _ ((Option.some.inj h ▸ hQ : PostS B O0 G s sc env V (.ret .none, Γ, Ω) Q) _ G s (.refl f.st) f .none)⟩
    | some e =>
      unfold evB at h; dsimp only at h
      split at h
      · exact nsd h
      · rename_i d Γ1 Ω1 h1
        rw [← Option.some.inj h] at hQ
        exact ⟨@wpAny_Return_some _ _ _ _ _ _ _ _ (eval_okS okE rm f h1 fun v G1 s1 t1 f1 r1 => hQ (.ret v) G1 s1 t1 f1 r1).w⟩
  case Assign ts v pos =>
    cases ts with
    | nil => exact nsd h
    | cons t rest => cases rest with
      | nil => exact asg_any nv rm f hQ h
      | cons => exact nsd h
  case AugAssign t op v pos =>
    cases t <;> first | exact nsd h | exact aug_ok nv rm f h hQ
  case For t i b o pos =>
    unfold evB at h; dsimp only at h
    split at h
    · rename_i hset
      split at h
      · exact nsd h
      · rename_i h1
        split at h
        · exact nsd h
        · rename_i hxs
          exact for_ok ok okE rm f hset h1 hxs h hQ
    · exact nsd h
  case While t b o pos =>
    cases o with
    | nil => exact while_ok ok okT rm f h hQ
    | cons => exact nsd h
  case If t b o pos =>
    unfold evB at h; dsimp only at h
    split at h
    · exact nsd h
    · rename_i c Γ1 Ω1 h1
      refine if_ok ok okT rm f h1 ?_ hQ
      cases c <;> exact h
  case Expr e pos => exact expr_any nv rm f hQ h
  case Pass pos =>
    rw [← Option.some.inj h] at hQ
    exact ⟨@wpAny_Pass _ _ _ _ _ _ _ (hQ .next G s (.refl f.st) f trivial)⟩
end
theorem evS1_ok (nv : NvOk B L X) (hk : OkS B L H.S) (ok : OkS B L rec) (m k : Nat) : OkS B L (evS1 H (evE X m) k rec) := by
  intro sc Γ Ω st r h A O0 G s env V E Q rm f hQ
  unfold evS1 at h
  split at h
  · rename_i r' hr
    exact hk sc Γ Ω st _ (hr.trans h) A O0 G s env V E Q rm f hQ
  · exact evB_ok nv ok m k rm f hQ h

theorem evS_ok (nv : NvOk B L X) (hk : OkS B L H.S) (m k : Nat) : ∀ n, OkS B L (evS H (evE X m) k n)
  | 0 => fun _ _ _ _ _ h => nomatch h
  | n + 1 => evS1_ok nv hk (evS_ok nv hk m k n) m k
end

noncomputable def noHk : Hk := ⟨fun _ _ _ _ => none⟩
theorem noHk_ok {B : Bs} {L : Nat} : OkS B L noHk.S := fun _ _ _ _ _ h => nomatch h
end Mine

end
section
open PySem PySem.W PyProof.Rows
set_option Elab.async false
namespace Mine

structure Fn where
  ps : List Str
  body : List Stmt
  scope : Scope

noncomputable def noFree : Kd → Bool
  | [] => true
  | (_, k) :: r => match k with
    | .free => false
    | _ => noFree r
theorem noFree_mem : ∀ {names : Kd} {x : Str}, noFree names = true → (x, NameKind.free) ∉ names
  | (y, k) :: r, x, h, hm => by
    unfold noFree at h
    split at h
    · first | exact nsd h | exact nft h | exact ntf h | cases h
    rename_i hk
    rcases List.mem_cons.mp hm with q | q
    · cases q; exact hk rfl
    · exact noFree_mem h q
noncomputable def fnOk (F : Fn) : Bool := (F.scope.kind == .function) && once F.scope.names && noFree F.scope.names && F.ps.all (storable F.scope.names) && !F.scope.isCoroutine && !F.scope.isGenerator

inductive FnCode (B : Bs) (fd : FuncData) : Prop
  | mk (c : Addr) (oc : Obj) (vs : Array Value) (t : Tok) (h1 : fd.code = .ref c) (h2 : B.h0.get? c = some oc) (h3 : c ∉ B.tb) (h4 : oc.data = .fields vs) (h5 : vs[1]? = some (.str fd.qualname t)) : FnCode B fd
inductive FnIs (B : Bs) (a : Addr) (F : Fn) : Prop
  | mk (o : Obj) (fd : FuncData) (h1 : B.h0.get? a = some o) (h2 : a ∉ B.tb) (h3 : o.data = .func fd) (h4 : fd.scope = F.scope) (h5 : fd.body = .stmts F.body) (h6 : fd.globals = mainGlobals) (h7 : fd.builtins = builtinsNs) (h8 : fd.closure = [])
    (h9 : FnCode B fd) (h10 : ∀ vs : List Value, vs.length = F.ps.length → bindArgs fd ⟨vs, []⟩ = pure (F.ps.zip vs)) : FnIs B a F
structure FnAt (B : Bs) (a : Addr) (F : Fn) : Prop where
  ok : fnOk F = true
  ob : FnIs B a F

noncomputable def retF : Fl → Option D
  | .ret d => some d
  | .nxt => some .none
  | _ => none
noncomputable def runF (rec : Sv) (F : Fn) (ds : List D) : Option D := tst (ds.length == F.ps.length) ((evSs rec F.scope.names F.body (bindPs [] F.ps ds) []).bind fun r => retF r.1)

section
variable {B : Bs} {L : Nat} {rec : Sv}

theorem fn_ok {a : Addr} {F : Fn} {ds : List D} {d : D} (fa : FnAt B a F) (ok : OkS B L rec) (h : runF rec F ds = some d) : OkCall B (L + 1) (.ref a) ds d := by
  intro A G s vs E Q rm st r hQ
  obtain ⟨hlen, h⟩ := tst_inv h
  obtain ⟨⟨fl, Γ2, Ω2⟩, he, h⟩ := bnd h
  have hlen : ds.length = F.ps.length := beq_iff_eq.mp hlen
  have hvl : vs.length = F.ps.length := r.length.trans hlen
  obtain ⟨o, fd, ho, hat, hdata, hscope, hbody, hglob, hblt, hclo, ⟨c, oc, cvs, ct, hcode, hoc, hct, hcd, hcq⟩, hbind⟩ := fa.ob
  have hok := fa.ok
  simp only [fnOk, Bool.and_eq_true, beq_iff_eq, Bool.not_eq_true'] at hok
  obtain ⟨⟨⟨⟨⟨hkind, honce⟩, hnf⟩, hst⟩, hco⟩, hgen⟩ := hok
  refine ⟨@wpAny_call _ _ _ _ _ _ _ _ (@codeAny_call_function _ _ _ _ _ _ _ _ _ _ rm.depth (st.kp a o hat ho) hdata (by rw [hscope]; exact hco) (by rw [hscope]; exact hgen) hbody ⟨c, oc, cvs, ct, hcode, st.kp c oc hct hoc, hcd, hcq⟩ ?_)⟩
  rw [hbind vs hvl, hclo, hglob, hscope, hblt]
  refine @wpAny_pure _ _ _ _ _ _ _ ?_
  have hmap1 : (F.ps.zip vs).map (·.1) = F.ps := List.map_fst_zip (by rw [hvl]; exact Nat.le_refl _)
  have hmap2 : (F.ps.zip vs).map (·.2) = vs := List.map_snd_zip (by rw [hvl]; exact Nat.le_refl _)
  have clo : Clo B G s F.scope.names [] [] := ⟨fun _ _ h => (nomatch h), fun _ _ h => (nomatch h), fun x hx => absurd hx (noFree_mem hnf), fun _ _ h => (nomatch h)⟩
  refine (enter_ok (Γ := []) (ds := ds) (around := none) (builtins := builtinsNs) hkind honce st clo (fun p hp => ?_) (by rw [hmap2]; exact r) rfl fun env G1 s1 henv kx hG1 se ow hW => ?_).w
  · exact List.all_eq_true.mp hst p.1 (List.of_mem_zip hp).1
  rw [hmap1] at se
  have hcells : env.cells = cellsFrom (s.heap.objs.size + 1) F.scope.names [] := by rw [henv, newEnv_cells]
  have hsc : env.scope = F.scope := by rw [henv, newEnv_scope]
  refine ⟨se.st.lim, @codeAny_func _ _ _ _ _ _ _ ?_⟩
  have hO : ∀ b, b ∈ G1.O ↔ b ∈ newW s F.scope.names ∨ b ∈ G.O := fun b => by rw [hG1]; exact List.mem_append
  have fm : Fm B G.O G1 s1 F.scope.names env (newW s F.scope.names) (bindPs [] F.ps ds) [] := by
    refine ⟨fun b hb q => Nat.not_lt.mpr (hW b hb).1 (st.lt b q), fun b hb => (hO b).mpr (.inr hb), st.sub, fun b hb hn => ((hO b).mp hb).elim (ow.new b) fun q => absurd q hn, ow, fun x => ?_, fun y cc hy => ?_, _, fun _ => 0, fun _ => [], se, fun _ _ h => h, fun _ _ h => (nomatch h), fun _ _ _ _ h => (nomatch h)⟩
    · unfold Env.kindOf; rw [hsc, look_eq]
    · rw [hcells] at hy
      exact (hW cc (List.mem_cons_of_mem _ (lookup_mem hy))).2
  have fin : ∀ G2 s2 Γ2 Ω2 v d', Tr B G.O G1 s1 G2 s2 → Fm B G.O G2 s2 F.scope.names env (newW s F.scope.names) Γ2 Ω2 → Rd G2 s2.heap v d' → d' = d → Q v s2 := fun G2 s2 Γ2 Ω2 v d' t2 f2 rv hd => by
    subst hd
    have kx2 : Kx B [] G s G2 s2 := kx.trans t2.kx fun b hb => by
      obtain ⟨h1, h2⟩ := mem_Wn.mp hb
      exact .inr ((hO b).mp h1 |>.elim (fun q => (hW b q).1) fun q => absurd q h2)
    exact hQ v { G2 with O := G.O } s2 kx2.kw (rv.up (Up.free f2.oo))
  refine (ss_ok ok (rm.deeper env) he fm fun f G2 s2 t2 f2 hfl => ?_).w
  cases fl with
  | nxt => cases f <;> first | exact False.elim hfl | exact fin G2 s2 _ _ _ _ t2 f2 .none (Option.some.inj h)
  | ret d' => cases f <;> first | exact False.elim hfl | exact fin G2 s2 _ _ _ _ t2 f2 hfl (Option.some.inj h)
  | brk => exact nsd h
  | cnt => exact nsd h

theorem FnAt.keep {a : Addr} {F : Fn} (fa : FnAt B a F) : KeepOk B (.ref a) := by
  obtain ⟨o, fd, ho, hat, hdata, _, _, _, _, _, _, _⟩ := fa.ob
  exact .func ho hat hdata

theorem OkCall.more {f : Value} {ds : List D} {d : D} {L L' : Nat} (h : OkCall B L f ds d) (hL : L ≤ L') : OkCall B L' f ds d := fun A G s vs E Q rm st r hQ => h A G s vs E Q (rm.less hL) st r hQ
theorem NvOk.more {X : Nv} {L L' : Nat} (h : NvOk B L X) (hL : L ≤ L') : NvOk B L' X :=
  ⟨fun x ds d e => let ⟨v, h1, h2, h3⟩ := h.n x ds d e; ⟨v, h1, h2, h3.more hL⟩, h.k, fun x d ds r e => let ⟨f, h1, h2, h3⟩ := h.m x d ds r e; ⟨f, h1, h2, h3.more hL⟩, h.p, h.t, h.a,
    fun m d ds kn kd r e => let ⟨fa, o, fd, h1, h2, h3, h4, h5⟩ := h.kw m d ds kn kd r e; ⟨fa, o, fd, h1, h2, h3, h4, fun A G s vs kv E Q rm => h5 A G s vs kv E Q (rm.less hL)⟩⟩

noncomputable def addF (X : Nv) (tab : List (Str × Fn)) (H : Hk) (m k n : Nat) : Nv := { X with N := fun x ds => match X.N x ds with
  | some d => some d
  | none => match look tab x with
    | none => none
    | some F => runF (evS H (evE X m) k n) F ds }
theorem addF_ok {X : Nv} {tab : List (Str × Fn)} {H : Hk} {m k n : Nat} (nv : NvOk B L X) (hk : OkS B L H.S) (ht : ∀ x F, look tab x = some F → ∃ a, B.mg x = some (.ref a) ∧ FnAt B a F) : NvOk B (L + 1) (addF X tab H m k n) := by
  have nv' := nv.more (Nat.le_succ L)
  refine ⟨fun x ds d h => ?_, nv.k, nv'.m, nv.p, nv.t, nv.a, nv'.kw⟩
  simp only [addF] at h
  split at h
  · rename_i d' hd
    cases h
    exact nv'.n x ds d hd
  · split at h
    · first | exact nsd h | exact nft h | exact ntf h | cases h
    rename_i F hF
    obtain ⟨a, ha, fa⟩ := ht x F hF
    exact ⟨.ref a, ha, fa.keep, fn_ok fa (evS_ok nv hk m k n) h⟩
end
end Mine

end
section
open PySem PySem.W PyProof.Rows
set_option Elab.async false
namespace Mine

inductive CodeIs (h : Heap) (fd : FuncData) : Prop
  | mk (c : Addr) (oc : Obj) (vs : Array Value) (t : Tok) (h1 : fd.code = .ref c) (h2 : h.get? c = some oc) (h3 : oc.cls = .type "code") (h4 : oc.data = .fields vs) (h5 : vs[1]? = some (.str fd.qualname t)) : CodeIs h fd
structure FcAt (B : Bs) (h : Heap) (a : Addr) (body : List Stmt) (scope : Scope) (cl : List (Str × Addr)) (fd : FuncData) : Prop where
  nt : a ∉ B.tb
  ob : ∃ o, h.get? a = some o ∧ o.data = .func fd
  sc : fd.scope = scope
  bd : fd.body = .stmts body
  gl : fd.globals = mainGlobals
  bl : fd.builtins = builtinsNs
  cl : fd.closure = cl
  cd : CodeIs h fd

theorem FcAt.kw {B : Bs} {W : List Addr} {G G' : Gh} {s s' : Shared} {a : Addr} {body : List Stmt} {scope : Scope} {cl : List (Str × Addr)} {fd : FuncData} (f : FcAt B s.heap a body scope cl fd) (k : Kw B W G s G' s') (ha : a ∉ W) : FcAt B s'.heap a body scope cl fd := by
  obtain ⟨o, ho, hd⟩ := f.ob
  obtain ⟨c, oc, vs, t, h1, h2, h3, h4, h5⟩ := f.cd
  exact ⟨f.nt, ⟨o, k.kp a o (fun q => (List.mem_append.mp q).elim ha f.nt) ho, hd⟩, f.sc, f.bd, f.gl, f.bl, f.cl, c, oc, vs, t, h1, k.cd c oc vs h2 h3 h4, h3, h4, h5⟩
theorem FcAt.ke {B : Bs} {G G' : Gh} {s s' : Shared} {a : Addr} {body : List Stmt} {scope : Scope} {cl : List (Str × Addr)} {fd : FuncData} (f : FcAt B s.heap a body scope cl fd) (k : Ke B G s G' s') : FcAt B s'.heap a body scope cl fd := f.kw k fun h => nomatch h

theorem Clo.kx {B : Bs} {W : List Addr} {G G' : Gh} {s s' : Shared} {names : Kd} {cl : List (Str × Addr)} {Γ : Gm} (c : Clo B G s names cl Γ) (k : Kx B W G s G' s') (st : St B G s) (hW : ∀ a ∈ W, a ∈ G.O) (hc : ∀ x c, cl.lookup x = some c → c ∉ W) : Clo B G' s' names cl Γ := by
  have up := k.up st hW
  refine ⟨fun x a h => Nat.lt_of_lt_of_le (c.old x a h) k.sz, c.nt, fun x hx => ?_, c.only⟩
  obtain ⟨a, ha, hd⟩ := c.has x hx
  refine ⟨a, ha, fun d hxd => ?_⟩
  obtain ⟨v, hv, r⟩ := hd d hxd
  exact ⟨v, k.kw.kp.cell (fun q => (List.mem_append.mp q).elim (hc x a ha) (c.nt x a ha)) hv, r.up up⟩
theorem Clo.kw {B : Bs} {W : List Addr} {G G' : Gh} {s s' : Shared} {names : Kd} {cl : List (Str × Addr)} {Γ : Gm} (c : Clo B G s names cl Γ) (k : Kw B W G s G' s') (st : St B G s) (hW : ∀ a ∈ W, a ∈ G.O) (hc : ∀ x c, cl.lookup x = some c → c ∉ W) : Clo B G' s' names cl Γ :=
  c.kx (.of_kw st k) st hW hc
theorem Clo.ke {B : Bs} {G G' : Gh} {s s' : Shared} {names : Kd} {cl : List (Str × Addr)} {Γ : Gm} (c : Clo B G s names cl Γ) (k : Ke B G s G' s') (st : St B G s) : Clo B G' s' names cl Γ :=
  c.kw k st (fun _ h => nomatch h) fun _ _ _ h => nomatch h

noncomputable def scOk (scope : Scope) : Bool := (scope.kind == .function) && once scope.names && !scope.isCoroutine && !scope.isGenerator


section
variable {B : Bs} {A : Around} {G : Gh} {s : Shared} {E : Value → Shared → Prop} {m : Nat}

theorem enter_cp {a : Addr} {body : List Stmt} {scope : Scope} {cl : List (Str × Addr)} {fd : FuncData} {Γ0 : Gm} {pos : List Value} {kw : List (Str × Value)} {binds : List (Str × Value)} {ds : List D} {R : Result → Shared → Prop}
    (fc : FcAt B s.heap a body scope cl fd) (hok : scOk scope = true) (hbind : ∀ (A' : Around) (E' : Value → Shared → Prop) (Qb : List (Str × Value) → Shared → Prop), Qb binds s → wpAny B.M A' (bindArgs fd ⟨pos, kw⟩) Qb E' s) (hst : ∀ p ∈ binds, storable scope.names p.1 = true) (st : St B G s) (clo : Clo B G s scope.names cl Γ0)
    (r : RdL G s.heap (binds.map (·.2)) ds) (rm : Room (m + 1) A)
    (h : ∀ env G1 s1 V Q1 E1, Fm B G.O G1 s1 scope.names env V (bindPs Γ0 (binds.map (·.1)) ds) [] → Kx B [] G s G1 s1 → (∀ b, b ∈ G1.O ↔ b ∈ V ∨ b ∈ G.O) → (∀ b ∈ V, s.heap.objs.size ≤ b) → env.code = fd.code → env.qual = fd.qualname ++ ".<locals>." →
      (∀ y c, env.cells.lookup y = some c → c ∈ V ∨ cl.lookup y = some c) → (∀ v s', R (.ok (.ret v)) s' → Q1 (.ret v) s') → (∀ s', R (.ok (.ret .none)) s' → Q1 .next s') → Room m (A.deeper env) → WP B (A.deeper env) (execs body env) Q1 E1 s1) :
    codeAny B.M A (.call (.ref a) ⟨pos, kw⟩) R s := by
  obtain ⟨o, ho, hdata⟩ := fc.ob
  obtain ⟨c, oc, cvs, ct, hcode, hoc, hcc, hcd, hcq⟩ := fc.cd
  simp only [scOk, Bool.and_eq_true, beq_iff_eq, Bool.not_eq_true'] at hok
  obtain ⟨⟨⟨hkind, honce⟩, hco⟩, hgen⟩ := hok
  refine @codeAny_call_function _ _ _ _ _ _ _ _ _ _ rm.depth ho hdata (by rw [fc.sc]; exact hco) (by rw [fc.sc]; exact hgen) fc.bd ⟨c, oc, cvs, ct, hcode, hoc, hcd, hcq⟩ ?_
  rw [fc.cl, fc.gl, fc.sc, fc.bl]
  refine hbind _ _ _ ?_
  refine (enter_ok (Γ := Γ0) (ds := ds) (around := none) (builtins := builtinsNs) hkind honce st clo hst r rfl fun env G1 s1 henv kx hG1 se ow hW => ?_).w
  have hcells : env.cells = cellsFrom (s.heap.objs.size + 1) scope.names cl := by rw [henv, newEnv_cells]
  have hlook : ∀ y c, env.cells.lookup y = some c → c ∈ newW s scope.names ∨ cl.lookup y = some c := fun y c hy => by
    rw [hcells, cellsFrom_acc, List.lookup_append] at hy
    cases hz : (cellsFrom (s.heap.objs.size + 1) scope.names []).lookup y with
    | some z => rw [hz] at hy; cases hy; exact .inl (List.mem_cons_of_mem _ (lookup_mem hz))
    | none => rw [hz] at hy; exact .inr (by simpa using hy)
  have hsc : env.scope = scope := by rw [henv, newEnv_scope]
  refine ⟨se.st.lim, @codeAny_func _ _ _ _ _ _ _ ?_⟩
  have hO : ∀ b, b ∈ G1.O ↔ b ∈ newW s scope.names ∨ b ∈ G.O := fun b => by rw [hG1]; exact List.mem_append
  have fm : Fm B G.O G1 s1 scope.names env (newW s scope.names) (bindPs Γ0 (binds.map (·.1)) ds) [] := by
    refine ⟨fun b hb q => Nat.not_lt.mpr (hW b hb).1 (st.lt b q), fun b hb => (hO b).mpr (.inr hb), st.sub, fun b hb hn => ((hO b).mp hb).elim (ow.new b) fun q => absurd q hn, ow, fun x => ?_, fun y cc hy => ?_, _, fun _ => 0, fun _ => [], se, fun _ _ h => h, fun _ _ h => (nomatch h), fun _ _ _ _ h => (nomatch h)⟩
    · unfold Env.kindOf; rw [hsc, look_eq]
    · rw [hcells, cellsFrom_acc] at hy
      rcases List.mem_append.mp (mem_of_lookup hy) with q | q
      · exact (hW cc (List.mem_cons_of_mem _ (List.mem_map.mpr ⟨_, q, rfl⟩))).2
      · exact Nat.lt_of_lt_of_le (clo.old y cc q) kx.sz
  exact (h env G1 s1 (newW s scope.names) _ _ fm kx hO (fun b hb => (hW b hb).1) (by rw [henv]; rfl) (by rw [henv]; rfl) hlook (fun _ _ q => q) (fun _ q => q) (rm.deeper env)).w

theorem enter_fb {a : Addr} {body : List Stmt} {scope : Scope} {cl : List (Str × Addr)} {fd : FuncData} {Γ0 : Gm} {pos : List Value} {kw : List (Str × Value)} {binds : List (Str × Value)} {ds : List D} {Q : Value → Shared → Prop}
    (fc : FcAt B s.heap a body scope cl fd) (hok : scOk scope = true) (hbind : ∀ (A' : Around) (E' : Value → Shared → Prop) (Qb : List (Str × Value) → Shared → Prop), Qb binds s → wpAny B.M A' (bindArgs fd ⟨pos, kw⟩) Qb E' s) (hst : ∀ p ∈ binds, storable scope.names p.1 = true) (st : St B G s) (clo : Clo B G s scope.names cl Γ0)
    (r : RdL G s.heap (binds.map (·.2)) ds) (rm : Room (m + 1) A)
    (h : ∀ env G1 s1 V Q1 E1, Fm B G.O G1 s1 scope.names env V (bindPs Γ0 (binds.map (·.1)) ds) [] → Kx B [] G s G1 s1 → (∀ b, b ∈ G1.O ↔ b ∈ V ∨ b ∈ G.O) → (∀ b ∈ V, s.heap.objs.size ≤ b) → env.code = fd.code → env.qual = fd.qualname ++ ".<locals>." →
      (∀ y c, env.cells.lookup y = some c → c ∈ V ∨ cl.lookup y = some c) → (∀ v s', Q v s' → Q1 (.ret v) s') → (∀ s', Q .none s' → Q1 .next s') → Room m (A.deeper env) → WP B (A.deeper env) (execs body env) Q1 E1 s1) :
    WP B A (call (.ref a) pos kw) Q E s :=
  ⟨@wpAny_call _ _ _ _ _ _ _ _ (enter_cp fc hok hbind hst st clo r rm h)⟩
theorem enter_fc {a : Addr} {body : List Stmt} {scope : Scope} {cl : List (Str × Addr)} {fd : FuncData} {Γ0 : Gm} {pos : List Value} {kw : List (Str × Value)} {binds : List (Str × Value)} {ds : List D} {Q : Value → Shared → Prop}
    (fc : FcAt B s.heap a body scope cl fd) (hok : scOk scope = true) (hbind : bindArgs fd ⟨pos, kw⟩ = pure binds) (hst : ∀ p ∈ binds, storable scope.names p.1 = true) (st : St B G s) (clo : Clo B G s scope.names cl Γ0)
    (r : RdL G s.heap (binds.map (·.2)) ds) (rm : Room (m + 1) A)
    (h : ∀ env G1 s1 V Q1 E1, Fm B G.O G1 s1 scope.names env V (bindPs Γ0 (binds.map (·.1)) ds) [] → Kx B [] G s G1 s1 → (∀ b, b ∈ G1.O ↔ b ∈ V ∨ b ∈ G.O) → (∀ b ∈ V, s.heap.objs.size ≤ b) → env.code = fd.code → env.qual = fd.qualname ++ ".<locals>." →
      (∀ y c, env.cells.lookup y = some c → c ∈ V ∨ cl.lookup y = some c) → (∀ v s', Q v s' → Q1 (.ret v) s') → (∀ s', Q .none s' → Q1 .next s') → Room m (A.deeper env) → WP B (A.deeper env) (execs body env) Q1 E1 s1) :
    WP B A (call (.ref a) pos kw) Q E s :=
  enter_fb fc hok (fun A' E' Qb hq => by rw [hbind]; exact @wpAny_pure _ _ _ _ _ _ _ hq) hst st clo r rm h


theorem Fm.ke_of {V : List Addr} {G1 G2 : Gh} {s1 s2 : Shared} (hO : ∀ b, b ∈ G1.O ↔ b ∈ V ∨ b ∈ G.O) (hV : ∀ b ∈ V, s.heap.objs.size ≤ b) (kx : Kx B [] G s G1 s1) (t : Tr B G.O G1 s1 G2 s2) : Ke B G s { G2 with O := G.O } s2 :=
  (kx.trans t.kx fun b hb => by
    obtain ⟨h1, h2⟩ := mem_Wn.mp hb
    exact .inr (((hO b).mp h1).elim (hV b) fun q => absurd q h2)).kw

noncomputable def IsFn (h : Heap) (a : Addr) : Prop := ∃ o fd, h.get? a = some o ∧ o.data = .func fd
theorem FcAt.isFn {h : Heap} {a : Addr} {body : List Stmt} {scope : Scope} {cl : List (Str × Addr)} {fd : FuncData} (f : FcAt B h a body scope cl fd) : IsFn h a := let ⟨o, h1, h2⟩ := f.ob; ⟨o, fd, h1, h2⟩

theorem callWith_fn {a : Addr} {first : List Value} {args : List (Bool × Sem Value)} {pos : Pos} {Q : Value → Shared → Prop} (hp : args.any (·.1) = false)
    (h : WP B A (spliced args) (fun vs s' => IsFn s'.heap a ∧ WP B A (call (.ref a) (first ++ vs)) Q E s') E s) : WP B A (callWith pos (.ref a) first args []) Q E s := by
  unfold callWith
  refine WP.bind (WP.holding (evalArgs_of hp (h.post fun vs s1 h1 => WP.bind (WP.standAt ?_))))
  obtain ⟨⟨o, fd, ho, hd⟩, h1⟩ := h1
  have tail : ∀ {t : Sem Value}, WP B A t Q E s1 → WP B A (t >>= fun r => holding [r] point >>= fun _ => pure r) Q E s1 :=
    fun ht => WP.bind (ht.post fun r s2 hr => WP.bind (WP.holding (WP.point (WP.pure hr))))
  rw [hp]
  simp only [List.any_nil, Bool.or_false]
  refine WP.bind ?_
  unfold keeperOf
  refine WP.bind ⟨@wpAny_load _ _ _ _ _ _ _ ho ?_⟩
  rw [hd]
  refine WP.pure ?_
  dsimp only
  split
  · exact tail h1
  · exact tail (by unfold callMarked; exact WP.keep h1)

variable {env : Env} {Γ : Gm} {sc : Kd} {L : Nat} {ev : Ev}
theorem callCel_ok (ok : OkE B L ev) (rm : Room L A) (kn : Kn sc env) (se : Sees B G s env Γ) {x : Str} {f : Addr} {px pos : Pos} {args : List Expr} {ds : List D} {Q : Value → Shared → Prop} (hk : kc (look sc x) = .cel) (hd : look Γ x = some (.ref f))
    (h1 : strEq x "__debug__" = false) (h2 : strEq x "__classdict__" = false) (ha : each (ev sc Γ) args = some ds)
    (h : ∀ vs G1 s1, Ke B G s G1 s1 → RdL G1 s1.heap vs ds → IsFn s1.heap f ∧ WP B A (call (.ref f) vs) Q E s1) : WP B A (eval (.Call (.Name x px) args [] pos) env) Q E s := by
  show WP B A (do callWith pos (← eval (.Name x px) env) [] (backTo pos (starEach args env)) []) Q E s
  rw [kn x] at hk
  refine WP.bind ⟨@wpAny_Name _ _ _ _ _ _ _ _ (load_cel se hk hd (not_eq h2) fun v G1 s1 k1 r1 => ?_).w (not_eq h1)⟩
  obtain rfl := r1.refI
  refine callWith_fn (star_any ha) (each_ok ok rm kn ha (se.ke k1) fun vs G2 s2 k2 r2 => ?_)
  exact h vs G2 s2 (k1.trans k2) r2
end
end Mine

end
section
open PySem PySem.W PyProof.Rows
set_option Elab.async false
namespace Mine

section
variable {M : Model} {A : Around} {E : Value → Shared → Prop} {s : Shared} {name qual : Str} {params : Arguments} {body : List Stmt} {scope : Scope} {env : Env} {c P : Addr} {ps : Array Value} {pos : Pos} {firstLine : Nat} {mg : Str → Option Value}
  {clos : List (Str × Addr)} {Q : Value → Shared → Prop}
noncomputable def CodeAt (h : Heap) (c : Addr) (q : Str) : Prop := ∃ oc vs t, h.get? c = some oc ∧ oc.cls = .type "code" ∧ oc.data = .fields vs ∧ vs[1]? = some (.str q t)
theorem code_new {h : Heap} {c P : Addr} {q : Str} {ps : Array Value} (r : h.CodeRec (.ref c) q) (t : h.TableAt c P ps) : CodeAt h c q := by
  obtain ⟨c', o, vs, tk, e, h1, h2, h3⟩ := r
  cases e
  obtain ⟨⟨o', vs', g1, g2, g3, _⟩, _⟩ := t
  rw [h1] at g1; cases g1
  exact ⟨o, vs, tk, h1, g2, h2, h3⟩

theorem make_new (hcl : closureFor scope env = pure clos) (hge0 : env.globals = mainGlobals) (hg : s.heap.Ns mainGlobals mg) (hcode : env.code = .ref c) (C : CodeHd s.heap c P) (hP : s.heap.get? P = some (tabO ps)) (ht : TriplesOk ps.toList)
    (hnf : codeAmong pos ps.toList = none) (hgP : mainGlobals ≠ P) (hb : s.heap.BuiltinsAt mg P)
    (h : ∀ c' ctv doc h' tk, Heap.ExtBut P s.heap h' → s.heap.objs.size ≤ h'.objs.size → CodeAt h' c' qual → h'.get? P = some (tabO (ps ++ #[rawInt pos.line, rawInt pos.col, .ref c'])) →
      Q (.ref h'.objs.size) { s with heap := h'.push (fnMade name qual params body scope clos doc ((mg "__name__").getD .none) c' ctv), toks := tk }) :
    wpAny M A (makeFunction name qual params (.stmts body) scope env [] [] [] pos firstLine) Q E s := by
  rw [makeFunction_eq]
  simp only [List.zip_nil_right, List.filterMap_nil, List.isEmpty_nil, if_true, pure_bind]
  obtain ⟨bm, ob, hbm, hne0, _, hneP, hbo, hcls, hdict, hdata⟩ := hb
  unfold makeTail
  rw [hcl, hge0]
  refine @wpAny_bind _ _ _ _ _ _ _ _ _ (@wpAny_pure _ _ _ _ _ _ _ ?_)
  have main : ∀ (ctv : Value) (h0 : Heap), (∀ b o, s.heap.get? b = some o → h0.get? b = some o) → s.heap.objs.size ≤ h0.objs.size →
      wpAny M A (functionCode env pos firstLine name qual params scope (.stmts body)) (fun cv s1 => ∃ c', cv = .ref c' ∧ Heap.ExtBut P s.heap s1.heap ∧ s.heap.objs.size ≤ s1.heap.objs.size ∧ CodeAt s1.heap c' qual ∧ s1.heap.get? P = some (tabO (ps ++ #[rawInt pos.line, rawInt pos.col, .ref c'])) ∧ ∃ h' tk, s1 = { s with heap := h', toks := tk }) E { s with heap := h0 } := fun ctv h0 hk hz => by
    refine @wpAny_functionCodeX _ _ _ _ _ _ _ _ _ _ _ _ _ _ _ _ hcode ((C.keeps hk).code (hk _ _ hP) ht) ((C.keeps hk).tab (hk _ _ hP)) hnf fun c' h' tk hx hge hlt _ hrec htb hlast => ?_
    obtain ⟨P', _, _, hT⟩ := hlast
    exact ⟨c', rfl, fun b o hb e => hx b o hb (hk b o e), Nat.le_trans hz (Nat.le_trans hge (Nat.le_of_lt hlt)), code_new hrec hT, htb.2, h', tk, rfl⟩
  cases clos with
  | nil =>
    simp only [List.isEmpty_nil, if_true]
    refine @wpAny_bind _ _ _ _ _ _ _ _ _ (@wpAny_pure _ _ _ _ _ _ _ ?_)
    refine @wpAny_bind _ _ _ _ _ _ _ _ _ (@wpAny_mono _ _ _ _ _ _ _ _ _ (main .none s.heap (fun _ _ e => e) (Nat.le_refl _)) (fun cv s1 q => ?_) fun _ _ x => x)
    obtain ⟨c', rfl, hx, hsz, hca, hPP, h', tk, rfl⟩ := q
    have hg' := hg.extBut hx hgP
    refine @wpAny_bind _ _ _ _ _ _ _ _ _ (@wpAny_builtinsFor _ _ _ _ _ _ _ _ _ _ hg' hbm hne0 (hx _ _ hneP hbo) hcls hdict hdata ?_)
    refine @wpAny_bind _ _ _ _ _ _ _ _ _ (@wpAny_nsGet _ _ _ _ _ _ _ _ hg' ?_)
    cases hdoc : docOf body with
    | none => exact @wpAny_bind _ _ _ _ _ _ _ _ _ (@wpAny_pure _ _ _ _ _ _ _ (@wpAny_newObj_type _ _ _ _ _ _ _ _ (h c' .none .none h' tk hx hsz hca hPP) (by size_fits)))
    | some t => exact @wpAny_bind _ _ _ _ _ _ _ _ _ (@wpAny_mkText _ _ _ _ _ _ (@wpAny_newObj_type _ _ _ _ _ _ _ _ (h c' .none _ h' _ hx hsz hca hPP) (by size_fits)))
  | cons q r =>
    simp only [List.isEmpty_cons, Bool.false_eq_true, if_false]
    refine @wpAny_bind _ _ _ _ _ _ _ _ _ (@wpAny_newTextTuple _ _ _ _ _ _ ?_)
    refine @wpAny_bind _ _ _ _ _ _ _ _ _ (@wpAny_mono _ _ _ _ _ _ _ _ _ (main .none _ (fun b o e => Heap.get?_push_of_some _ e) (by rw [Heap.size_push]; exact Nat.le_succ _)) (fun cv s1 q => ?_) fun _ _ x => x)
    obtain ⟨c', rfl, hx, hsz, hca, hPP, h', tk, rfl⟩ := q
    have hg' := hg.extBut hx hgP
    refine @wpAny_bind _ _ _ _ _ _ _ _ _ (@wpAny_builtinsFor _ _ _ _ _ _ _ _ _ _ hg' hbm hne0 (hx _ _ hneP hbo) hcls hdict hdata ?_)
    refine @wpAny_bind _ _ _ _ _ _ _ _ _ (@wpAny_nsGet _ _ _ _ _ _ _ _ hg' ?_)
    cases hdoc : docOf body with
    | none => exact @wpAny_bind _ _ _ _ _ _ _ _ _ (@wpAny_pure _ _ _ _ _ _ _ (@wpAny_newObj_type _ _ _ _ _ _ _ _ (h c' _ .none h' tk hx hsz hca hPP) (by size_fits)))
    | some t => exact @wpAny_bind _ _ _ _ _ _ _ _ _ (@wpAny_mkText _ _ _ _ _ _ (@wpAny_newObj_type _ _ _ _ _ _ _ _ (h c' _ _ h' _ hx hsz hca hPP) (by size_fits)))
end

section
variable {B : Bs} {A : Around} {O0 : List Addr} {G : Gh} {s : Shared} {sc : Kd} {env : Env} {V : List Addr} {Γ : Gm} {E : Value → Shared → Prop} {m : Nat}

theorem code_not_tb {c : Addr} {o : Obj} {vs : Array Value} (ho : B.h0.get? c = some o) (hc : o.cls = .type "code") : c ∉ B.tb := fun q => by
  obtain ⟨vs, e⟩ := B.tab.some q
  rw [ho] at e; cases e; cases hc

theorem CodeHd.st {c P : Addr} (C : CodeHd B.h0 c P) (st : St B G s) : CodeHd s.heap c P := by
  obtain ⟨o, vs, file, tf, flags, tg, inF, text, tt, e, hc, r⟩ := C
  exact ⟨o, vs, file, tf, flags, tg, inF, text, tt, st.kp c o (fun q => by
    obtain ⟨vs, e'⟩ := B.tab.some q
    rw [e] at e'; cases e'; cases hc) e, hc, r⟩
theorem BuiltinsAt.st {P : Addr} (b : B.h0.BuiltinsAt B.mg P) (st : St B G s) : s.heap.BuiltinsAt B.mg P := by
  obtain ⟨bm, o, h1, h2, h3, h4, h5, h6, r⟩ := b
  exact ⟨bm, o, h1, h2, h3, h4, st.kp bm o (fun q => by
    obtain ⟨vs, e'⟩ := B.tab.some q
    rw [h5] at e'; cases e'; cases h6) h5, h6, r⟩

theorem mk_ok {name qual : Str} {params : Arguments} {body : List Stmt} {scope : Scope} {pos : Pos} {firstLine : Nat} {c P : Addr} {clos : List (Str × Addr)} {Q : Value → Shared → Prop} (st : St B G s)
    (hge0 : env.globals = mainGlobals) (hcode : env.code = .ref c) (C : CodeHd B.h0 c P) (hP : P ∈ B.tb) (hdn : B.dn P = (pos, qual)) (hb : B.h0.BuiltinsAt B.mg P) (hcl : closureFor scope env = pure clos)
    (hQ : ∀ fa fd s', Ke B G s G s' → s.heap.objs.size ≤ fa → fa < s'.heap.objs.size → FcAt B s'.heap fa body scope clos fd → (∃ doc pm c' ctv, fd = fnX name qual params body scope clos .none .none doc pm none (.ref c') ctv) → Q (.ref fa) s') :
    WP B A (makeFunction name qual params (.stmts body) scope env [] [] [] pos firstLine) Q E s := by
  have hgP : mainGlobals ≠ P := fun q => (B.low P hP).1 q.symm
  rcases st.tg P hP with e | ⟨c', o, vs, t, e, h1, h2, h3, h4⟩
  · refine WP.mt ⟨make_new (mg := B.mg) hcl hge0 st.g hcode (CodeHd.st C st) e (by show TriplesOk []; exact trivial) (by rfl) hgP (BuiltinsAt.st hb st) fun c' ctv doc h' tk hx hz hca hPP htk hsz => ?_⟩
    obtain ⟨oc, vs, t, g1, g2, g3, g4⟩ := hca
    have nP : NC s.heap P := .cls e (by intro q; cases q)
    have keep : ∀ b o, b ≠ P → s.heap.get? b = some o → (h'.push (fnMade name qual params body scope clos doc ((B.mg "__name__").getD .none) c' ctv)).get? b = some o := fun b o hb e => Heap.get?_push_of_some _ (hx b o hb e)
    have cd : Cd s.heap (h'.push (fnMade name qual params body scope clos doc ((B.mg "__name__").getD .none) c' ctv)) := fun a o vs e c d => keep a o (fun q => nP o vs (q ▸ e) c d) e
    have ke : Ke B G s G { s with heap := h'.push (fnMade name qual params body scope clos doc ((B.mg "__name__").getD .none) c' ctv), toks := tk } := by
      refine ⟨⟨_, _, rfl⟩, fun b o hb e => keep b o (fun q => hb (q ▸ hP)) e, fun tq => fun P' hP' => ?_, cd, hsz, rfl, Nat.le_refl _, fun _ _ => rfl, Nat.le_trans st.tk htk⟩
      by_cases hPP' : P' = P
      · subst hPP'
        refine .inr ⟨c', oc, vs, t, ?_, Heap.get?_push_of_some _ g1, g2, g3, by rw [hdn]; exact g4⟩
        rw [hdn]; exact Heap.get?_push_of_some _ (by simpa using hPP)
      · rcases tq P' hP' with q | ⟨c2, o2, vs2, t2, q1, q2, q3, q4, q5⟩
        · exact .inl (keep P' _ hPP' q)
        · exact .inr ⟨c2, o2, vs2, t2, keep P' _ hPP' q1, cd c2 o2 vs2 q2 q3 q4, q3, q4, q5⟩
    refine hQ _ _ _ ke (Nat.le_trans hz (Nat.le_refl _)) (by show h'.objs.size < (h'.push _).objs.size; rw [Heap.size_push]; exact Nat.lt_succ_self _) ⟨fun q => Nat.not_lt.mpr hz (st.lt _ (st.sub _ q)), ⟨_, Heap.get?_push_size _ rfl, rfl⟩, rfl, rfl, rfl, rfl, rfl, c', oc, vs, t, rfl, Heap.get?_push_of_some _ g1, g2, g3, g4⟩ ⟨_, _, _, _, rfl⟩
  · rw [hdn] at e h4
    refine WP.mt ⟨makeFunction_hit (mg := B.mg) hcl hge0 st.g hcode (CodeHd.st C st) e (by show TriplesOk [_, _, _]; exact trivial) (by show codeAmong pos [rawInt pos.line, rawInt pos.col, .ref c'] = some (.ref c'); simp [codeAmong, rawInt]) (BuiltinsAt.st hb st) fun ctv doc h' tk hk hz htk hsz => ?_⟩
    have ke : Ke B G s G _ := Ke.of st (h' := h'.push _) (fun b o e => Heap.get?_push_of_some _ (hk b o e)) htk hsz
    exact hQ _ _ _ ke hz (by show h'.objs.size < (h'.push _).objs.size; rw [Heap.size_push]; exact Nat.lt_succ_self _) ⟨fun q => Nat.not_lt.mpr hz (st.lt _ (st.sub _ q)), ⟨_, Heap.get?_push_size _ rfl, rfl⟩, rfl, rfl, rfl, rfl, rfl, c', o, vs, t, rfl, Heap.get?_push_of_some _ (hk _ _ h1), h2, h3, h4⟩ ⟨_, _, _, _, rfl⟩

theorem Sees.clo {names : Kd} (se : Sees B G s env Γ) (hn : ∀ x, (x, NameKind.free) ∈ names → kc (env.kindOf x) = .cel) : Clo B G s names (closOf env.cells names []) (freeG Γ names) := by
  refine ⟨fun x c hx => ?_, fun x c hx => ?_, fun x hx => ?_, fun x d hx => (look_freeG hx).1⟩
  · obtain ⟨h1, rfl⟩ := closOf_mem hx
    obtain ⟨c', h2, _, h3, _⟩ := se.cl x (hn x h1)
    rw [h2]; exact h3
  · obtain ⟨h1, rfl⟩ := closOf_mem (mem_of_lookup hx)
    obtain ⟨c', h2, h3, _⟩ := se.cl x (hn x h1)
    rw [h2]; exact h3
  · obtain ⟨c', h2, _, _, h3⟩ := se.cl x (hn x hx)
    exact ⟨c', by rw [closOf_some hx, h2]; rfl, fun d hxd => h3 d (look_freeG hxd).2⟩

noncomputable def freeCel (sc : Kd) : Kd → Bool
  | [] => true
  | (x, k) :: r => match k with
    | .free => match kc (look sc x) with
      | .cel => freeCel sc r
      | _ => false
    | _ => freeCel sc r
theorem freeCel_mem {sc : Kd} : ∀ {names : Kd} {x : Str}, freeCel sc names = true → (x, NameKind.free) ∈ names → kc (look sc x) = .cel
  | (y, k) :: r, x, h, hm => by
    unfold freeCel at h
    split at h
    · split at h
      · rename_i hk
        rcases List.mem_cons.mp hm with q | q
        · cases q; exact hk
        · exact freeCel_mem h q
      · first | exact nsd h | exact nft h | exact ntf h | cases h
    · rename_i hk
      rcases List.mem_cons.mp hm with q | q
      · cases q; exact absurd rfl hk
      · exact freeCel_mem h q

theorem def_ok {name qual : Str} {params : Arguments} {body : List Stmt} {scope : Scope} {pos : Pos} {c P : Addr} {Q : Flow → Shared → Prop} (f : Fm B O0 G s sc env V Γ [])
    (hd0 : params.defaults = []) (hk0 : params.kw_defaults = []) (ha : annTrees params none env = []) (hcode : env.code = .ref c) (C : CodeHd B.h0 c P) (hP : P ∈ B.tb) (hdn : B.dn P = (pos, qual)) (hq : qualnameIn env name name = qual)
    (hb : B.h0.BuiltinsAt B.mg P) (hfree : freeCel sc scope.names = true) (hx : storable sc name = true)
    (hQ : ∀ fa fd s', Tr B O0 G s G s' → Fm B O0 G s' sc env V (put Γ name (.ref fa)) [] → fa ∉ G.O → FcAt B s'.heap fa body scope (closOf env.cells scope.names []) fd →
      (∃ doc pm c' ctv, fd = fnX name qual params body scope (closOf env.cells scope.names []) .none .none doc pm none (.ref c') ctv) → Q .next s') :
    WP B A (exec (.FunctionDef name params body [] none [] scope none name pos) env) Q E s := by
  have hfr : ∀ x, (x, NameKind.free) ∈ scope.names → kc (env.kindOf x) = .cel := fun x hm => by rw [← f.kn x]; exact freeCel_mem hfree hm
  have hcl : closureFor scope env = pure (closOf env.cells scope.names []) := closureFor_ok fun x hm => let ⟨c, h, _, _, _⟩ := f.se.cl x (hfr x hm); ⟨c, h⟩
  refine ⟨@nestDef_K _ _ _ _ _ _ _ _ _ _ _ hd0 hk0 ha ?_⟩
  rw [hq]
  refine (mk_ok f.st f.se.glob hcode C hP hdn hb hcl fun fa fd s1 k1 hz hlt fc hfd => ?_).w
  have hnO : fa ∉ G.O := fun q => Nat.not_lt.mpr hz (f.st.lt _ q)
  refine ((f.ke k1).stored hx (.ref fa) fun s2 t2 f2 => ?_).w
  exact hQ fa fd s2 ((Tr.ke f.st k1).trans t2) f2 hnO (fc.kw t2.kx.kw fun q => hnO (mem_Wn.mp q).1) hfd
end
end Mine

end
section
open PySem PySem.W PyProof.Rows
set_option Elab.async false
namespace Mine

section
variable {ev : Kd → Gm → Expr → Option D} {sc : Kd} {Γ Γ1 : Gm} {Ω Ω1 : Om} {k m : Nat}
theorem evS_If {t : Expr} {b o : List Stmt} {p : Pos} {c : Bool} (h : testD (ev sc) Γ Ω t = some (c, Γ1, Ω1)) : evS noHk ev k (m + 1) sc Γ Ω (.If t b o p) = evSs (evS noHk ev k m) sc (cond c b o) Γ1 Ω1 := by
  show (match testD (ev sc) Γ Ω t with
      | none => none
      | some (c, Γ1, Ω1) => match c with
        | true => evSs (evS noHk ev k m) sc b Γ1 Ω1
        | false => evSs (evS noHk ev k m) sc o Γ1 Ω1) = _
  rw [h]; cases c <;> rfl
theorem evS_Ret {e : Expr} {d : D} {p : Pos} (h : ev sc Γ e = some d) : evS noHk ev k (m + 1) sc Γ [] (.Return (some e) p) = some (.ret d, Γ, []) := by
  show (match evF (ev sc) Γ [] e with
        | none => none
        | some (d, Γ1, Ω1) => some (Fl.ret d, Γ1, Ω1)) = _
  unfold evF; rw [h]
theorem evSs_cons {rec : Sv} {st : Stmt} {r : List Stmt} (h : rec sc Γ Ω st = some (.nxt, Γ1, Ω1)) : evSs rec sc (st :: r) Γ Ω = evSs rec sc r Γ1 Ω1 := by
  show (match rec sc Γ Ω st with
    | none => none
    | some (fl, Γ', Ω') => match fl with
      | .nxt => evSs rec sc r Γ' Ω'
      | _ => some (fl, Γ', Ω')) = _
  rw [h]
theorem evSs_ret {rec : Sv} {st : Stmt} {r : List Stmt} {d : D} (h : rec sc Γ Ω st = some (.ret d, Γ1, Ω1)) : evSs rec sc (st :: r) Γ Ω = some (.ret d, Γ1, Ω1) := by
  show (match rec sc Γ Ω st with
    | none => none
    | some (fl, Γ', Ω') => match fl with
      | .nxt => evSs rec sc r Γ' Ω'
      | _ => some (fl, Γ', Ω')) = _
  rw [h]
end

section
variable {B : Bs} {A : Around} {O0 : List Addr} {G : Gh} {s : Shared} {sc : Kd} {env : Env} {V : List Addr} {Γ Γ' : Gm} {Ω Ω' : Om} {E : Value → Shared → Prop} {L : Nat} {ev : Ev} {rec : Sv}
theorem ss_then (ok : OkS B L rec) (rm : Room L A) {post : List Stmt} : ∀ {pre : List Stmt} {Γ : Gm} {Ω : Om} {G : Gh} {s : Shared} {Q : Flow → Shared → Prop}, evSs rec sc pre Γ Ω = some (.nxt, Γ', Ω') → Fm B O0 G s sc env V Γ Ω →
    (∀ G' s', Tr B O0 G s G' s' → Fm B O0 G' s' sc env V Γ' Ω' → WP B A (execs post env) Q E s') → WP B A (execs (pre ++ post) env) Q E s
  | [], Γ, Ω, G, s, Q, h, f, hQ => by
    cases h
    exact hQ G s (.refl f.st) f
  | st :: sts, Γ, Ω, G, s, Q, h, f, hQ => by
    unfold evSs at h
    split at h
    · first | exact nsd h | exact nft h | exact ntf h | cases h
    rename_i fl Γ1 Ω1 h1
    refine ⟨@wpAny_execs_cons _ _ _ _ _ _ _ _ (ok sc Γ Ω st _ h1 A O0 G s env V E _ rm f fun fw G1 s1 t1 f1 hfl => ?_).w⟩
    cases fl <;> simp only [reduceCtorEq, Option.some.injEq, Prod.mk.injEq, false_and] at h
    cases fw <;> first | exact False.elim hfl | skip
    exact (ss_then ok rm h f1 fun G2 s2 t2 f2 => hQ G2 s2 (t1.trans t2) f2).w

theorem WP.binop {l r : Expr} {op : Operator} {p : Pos} {Q : Value → Shared → Prop} (h : WP B A (eval l env) (fun v s1 => WP B A (eval r env) (fun w s2 => WP B A (binaryOp op v w) Q E s2) E s1) E s) : WP B A (eval (.BinOp l op r p) env) Q E s :=
  ⟨@wpAny_BinOp _ _ _ _ _ _ _ _ _ _ (@wpAny_mono _ _ _ _ _ _ _ _ _ h.w (fun _ _ x => @wpAny_mono _ _ _ _ _ _ _ _ _ x.w (fun _ _ y => y.w) fun _ _ y => y) fun _ _ x => x)⟩
theorem WP.ret1 {e : Expr} {p : Pos} {Q : Flow → Shared → Prop} (h : WP B A (eval e env) (fun v => Q (.ret v)) E s) : WP B A (execs [.Return (some e) p] env) Q E s :=
  ⟨@wpAny_execs_cons _ _ _ _ _ _ _ _ (@wpAny_Return_some _ _ _ _ _ _ _ _ h.w)⟩
end

noncomputable def val (n : Nat) : List Int → Int
  | [] => 0
  | d :: r => d + val n r * 2 ^ n
theorem val_append (n : Nat) : ∀ (a b : List Int), val n (a ++ b) = val n a + val n b * 2 ^ (n * a.length)
  | [], b => by simp [val]
  | d :: a, b => by
    simp only [List.cons_append, val, List.length_cons, val_append n a b]
    rw [Nat.mul_add, Nat.mul_one, Int.pow_add]
    simp only [Int.add_mul, Int.mul_assoc, Int.add_assoc]
theorem two_pow_pos (k : Nat) : (0 : Int) < 2 ^ k := Int.pow_pos (by decide)
theorem val_bound (n : Nat) : ∀ (l : List Int), (∀ d ∈ l, 0 ≤ d ∧ d < 2 ^ n) → 0 ≤ val n l ∧ val n l < 2 ^ (n * l.length)
  | [], _ => by simp [val]
  | d :: l, h => by
    obtain ⟨h1, h2⟩ := h d List.mem_cons_self
    obtain ⟨h3, h4⟩ := val_bound n l fun e he => h e (List.mem_cons_of_mem _ he)
    simp only [val, List.length_cons, Nat.mul_add, Nat.mul_one, Int.pow_add]
    have hp := two_pow_pos n
    generalize (2 : Int) ^ n = q at *
    generalize (2 : Int) ^ (n * l.length) = p at *
    have h5 := Int.mul_nonneg h3 (Int.le_of_lt hp)
    have h6 : (val n l + 1) * q ≤ p * q := Int.mul_le_mul_of_nonneg_right (by omega) (Int.le_of_lt hp)
    rw [Int.add_mul, Int.one_mul] at h6
    constructor
    · omega
    · omega
theorem intBits_le {a : Int} {k : Nat} (h0 : 0 ≤ a) (h1 : a < 2 ^ k) : Builtin.Int.intBits a ≤ k := by
  unfold Builtin.Int.intBits
  by_cases h : a = 0
  · subst h; simp
  · rw [if_neg (by simpa using h)]
    have h2 : a.natAbs < 2 ^ k := by
      have e : ((a.natAbs : Nat) : Int) = a := Int.natAbs_of_nonneg h0
      have : ((a.natAbs : Nat) : Int) < ((2 ^ k : Nat) : Int) := by rw [e]; simpa using h1
      exact Int.ofNat_lt.mp this
    exact (Nat.log2_lt (by omega)).mpr h2
noncomputable def seg (ds : List Int) (L R : Nat) : List Int := (ds.drop L).take (R - L)
theorem seg_one {ds : List Int} {L : Nat} {d : Int} (h : ds[L]? = some d) : seg ds L (L + 1) = [d] := by
  unfold seg
  obtain ⟨h1, h2⟩ := List.getElem?_eq_some_iff.mp h
  rw [Nat.add_sub_cancel_left, List.drop_eq_getElem_cons h1, h2]
  simp
theorem seg_split {ds : List Int} {L M R : Nat} (h1 : L ≤ M) (h2 : M ≤ R) : seg ds L R = seg ds L M ++ seg ds M R := by
  unfold seg
  have e : R - L = (M - L) + (R - M) := by rw [Nat.add_comm, Nat.sub_add_sub_cancel h2 h1]
  rw [e, List.take_add, List.drop_drop]
  congr 2
  rw [Nat.add_sub_cancel' h1]
theorem seg_len {ds : List Int} {L R : Nat} (h1 : L ≤ R) (h2 : R ≤ ds.length) : (seg ds L R).length = R - L := by
  unfold seg; rw [List.length_take, List.length_drop]; exact Nat.min_eq_left (Nat.sub_le_sub_right h2 L)
theorem seg_mem {ds : List Int} {L R : Nat} {d : Int} (h : d ∈ seg ds L R) : d ∈ ds := List.mem_of_mem_drop (List.mem_of_mem_take h)

structure Mid (L R k M : Nat) : Prop where
  lm : L < M
  mr : M < R
  k1 : R - M ≤ k
  k2 : M - L ≤ k
  sum : R - M + (M - L) = R - L
  sum' : M - L + (R - M) = R - L
  add : L + (M - L) = M
theorem mid_two {L R : Nat} (h : L < R) (hb : ¬ L + 1 = R) : L < (L + R) / 2 ∧ (L + R) / 2 < R := by
  have h2 : L + 2 ≤ R := Nat.lt_of_le_of_ne h hb
  refine ⟨(Nat.le_div_iff_mul_le Nat.two_pos).mpr ?_, Nat.div_lt_of_lt_mul ?_⟩
  · rw [Nat.succ_mul, Nat.mul_two, Nat.add_assoc]; exact Nat.add_le_add_left h2 L
  · rw [Nat.two_mul]; exact Nat.add_lt_add_right h R
theorem mid_k {L M R k : Nat} (h : L < M) (hk : R - L ≤ k + 1) : R - M ≤ k := Nat.sub_le_iff_le_add.mpr (Nat.le_trans (Nat.sub_le_iff_le_add.mp hk) (by rw [Nat.add_assoc, Nat.add_comm 1]; exact Nat.add_le_add_left h k))
theorem mid_k' {L M R k : Nat} (h : M < R) (hk : R - L ≤ k + 1) : M - L ≤ k := by omega
theorem mid_of {L R k : Nat} (h : L < R) (hb : ¬ L + 1 = R) (hk : R - L ≤ k + 1) : Mid L R k ((L + R) / 2) :=
  let ⟨a, b⟩ := mid_two h hb
  have s := Nat.sub_add_sub_cancel (Nat.le_of_lt b) (Nat.le_of_lt a)
  ⟨a, b, mid_k a hk, mid_k' b hk, s, (Nat.add_comm _ _).trans s, Nat.add_sub_cancel' (Nat.le_of_lt a)⟩
theorem mid_int {L R : Nat} (h : L ≤ R) : ((L : Int) + (R : Int)).fdiv (2 ^ 1) = (((L + R) / 2 : Nat) : Int) := by
  rw [Int.fdiv_eq_ediv_of_nonneg _ (by decide)]; rfl
theorem mid_sh {L M n : Nat} (h : L ≤ M) : (((M : Nat) : Int) - (L : Int)) * (n : Int) = ((n * (M - L) : Nat) : Int) := by
  rw [Int.natCast_mul, Int.natCast_sub h, Int.mul_comm]
theorem bits_sum {b u v : Nat} (h : b ≤ u) (h3 : u ≤ 2 ^ 14 * 64) (h4 : v ≤ 2 ^ 14 * 64) : (b : Int) + (v : Int) ≤ 2 ^ 27 := by omega
theorem sub_64 {a b N : Nat} (h : b ≤ N) (hN : N ≤ 64) : b - a ≤ 64 := by omega
theorem int_le64 {R N : Nat} (h : R ≤ N) (hN : N ≤ 64) : (R : Int) ≤ 64 := by omega
theorem end_no {L R : Nat} (h : ¬ L + 1 = R) : ((L : Int) + 1 == (R : Int)) = false := by simp; omega
theorem end_yes {L : Nat} : ((L : Int) + 1 == ((L + 1 : Nat) : Int)) = true := by simp
theorem idx_lt {L N : Nat} (h : L < N) (hN : N ≤ 64) : (L : Int) < 2 ^ 63 := by omega

section
variable {B : Bs} {L0 : Nat} {X : Nv} {q kk mm : Nat}

theorem FcAt.kx {W : List Addr} {G G' : Gh} {s s' : Shared} {a : Addr} {body : List Stmt} {scope : Scope} {cl : List (Str × Addr)} {fd : FuncData} (f : FcAt B s.heap a body scope cl fd) (k : Kx B W G s G' s') (ha : a ∉ W) : FcAt B s'.heap a body scope cl fd := f.kw k.kw ha

theorem d2i_inner (nv : NvOk B L0 X) {fa : Addr} {body : List Stmt} {scope : Scope} {cl : List (Str × Addr)} {fd : FuncData} {Γc : Gm} {Lx Rx nm : Str} {t re a1 a2 a3 a4 sh : Expr} {s2 s3 : Stmt} {pr pi p1 p2 p3 p4 p5 p6 p7 : Pos} {ds : List Int} {n : Nat}
    (hsc : scOk scope = true) (hsL : storable scope.names Lx = true) (hsR : storable scope.names Rx = true) (hbind : ∀ v w, bindArgs fd ⟨[v, w], []⟩ = pure [(Lx, v), (Rx, w)])
    (hb : body = [.If t [.Return (some re) pr] [] pi, s2, s3] ++ [.Return (some (.BinOp (.BinOp (.Call (.Name nm p1) [a1, a2] [] p2) .LShift sh p3) .Add (.Call (.Name nm p4) [a3, a4] [] p5) p6)) p7])
    (hds : ∀ d ∈ ds, 0 ≤ d ∧ d < 2 ^ n) (hlen : ds.length ≤ 64) (hn : n ≤ 2 ^ 14) (hk : kc (look scope.names nm) = .cel) (h1 : strEq nm "__debug__" = false) (h2 : strEq nm "__classdict__" = false)
    (ht : ∀ L R : Int, testD (evE X q scope.names) (bindPs Γc [Lx, Rx] [.int L, .int R]) [] t = some (L + 1 == R, bindPs Γc [Lx, Rx] [.int L, .int R], []))
    (hr : ∀ (L R : Int), evE X q scope.names (bindPs Γc [Lx, Rx] [.int L, .int R]) re = itemD (.lst (ds.map D.int)) (.int L))
    (hm : ∀ L R : Int, 0 ≤ L → L < R → R ≤ 64 → ∃ Γ', evSs (evS noHk (evE X q) kk (mm + 2)) scope.names [s2, s3] (bindPs Γc [Lx, Rx] [.int L, .int R]) [] = some (.nxt, Γ', []) ∧ each (evE X q scope.names Γ') [a1, a2] = some [.int ((L + R).fdiv (2 ^ 1)), .int R] ∧
      each (evE X q scope.names Γ') [a3, a4] = some [.int L, .int ((L + R).fdiv (2 ^ 1))] ∧ evE X q scope.names Γ' sh = some (.int (((L + R).fdiv (2 ^ 1) - L) * n)) ∧ look Γ' nm = some (.ref fa)) :
    ∀ (k L R : Nat), L < R → R ≤ ds.length → R - L ≤ k → ∀ A G s vs Q E, Room (L0 + k + 1) A → St B G s → FcAt B s.heap fa body scope cl fd → Clo B G s scope.names cl Γc → RdL G s.heap vs [.int (L : Int), .int (R : Int)] →
      Post B G s (.int (val n (seg ds L R))) Q → WP B A (call (.ref fa) vs) Q E s := by
  intro k
  induction k with
  | zero => intro L R h1 _ h3; exact absurd h1 (Nat.not_lt.mpr (Nat.le_of_sub_eq_zero (Nat.le_zero.mp h3)))
  | succ k ih =>
    intro L R hLR hR hk' A G s vs Q E rm st fc clo r hQ
    obtain ⟨v, w, rfl, rv, rw'⟩ := r.two
    refine enter_fc (m := L0 + k + 1) fc hsc (hbind v w) ?_ st clo (ds := [.int (L : Int), .int (R : Int)]) (.cons rv (.cons rw' .nil)) rm fun env G1 s1 V Q1 E1 f1 kx hO hV _ _ _ hq1 _ rm1 => ?_
    · intro p hp
      rcases List.mem_cons.mp hp with q | q
      · rw [q]; exact hsL
      · rw [List.mem_singleton.mp q]; exact hsR
    have okS := evS_ok (H := noHk) nv noHk_ok q kk (mm + 2)
    have okE := (evE_ok nv q).1
    have rmL : Room L0 (A.deeper env) := rm1.less (by omega)
    by_cases hbase : L + 1 = R
    · subst hbase
      have hlt : L < ds.length := hR
      have hget : ds[L]? = some ds[L] := List.getElem?_eq_getElem hlt
      have htest : ((L : Int) + 1 == ((L + 1 : Nat) : Int)) = true := end_yes
      have hev : evSs (evS noHk (evE X q) kk (mm + 2)) scope.names body (bindPs Γc [Lx, Rx] [.int (L : Int), .int ((L + 1 : Nat) : Int)]) [] = some (.ret (.int ds[L]), bindPs Γc [Lx, Rx] [.int (L : Int), .int ((L + 1 : Nat) : Int)], []) := by
        rw [hb]
        refine evSs_ret ?_
        rw [evS_If (ht _ _), htest]
        refine evSs_ret (evS_Ret ?_)
        rw [hr]
        simp only [itemD]
        rw [if_pos ⟨Int.natCast_nonneg _, idx_lt hlt hlen⟩, Int.toNat_natCast, List.getElem?_map, hget]; rfl
      refine ss_ok okS rmL hev f1 fun fl G2 s2 t2 f2 hfl => ?_
      revert hfl
      cases fl <;> first | (intro hfl; exact hfl.elim) | skip
      intro hfl
      refine hq1 _ _ (hQ _ _ _ (Fm.ke_of hO hV kx t2) ?_)
      rw [seg_one hget, show val n [ds[L]] = ds[L] by simp only [val, Int.zero_mul, Int.add_zero]]
      exact (show Rd G2 s2.heap _ (.int ds[L]) from hfl).intK fun t => .int _ t
    · have htest : ((L : Int) + 1 == (R : Int)) = false := end_no hbase
      obtain ⟨Γ', hss, ha1, ha2, hsh, hfn⟩ := hm L R (Int.natCast_nonneg _) (Int.ofNat_lt.mpr hLR) (int_le64 hR hlen)
      rw [hb]
      have hpre : evSs (evS noHk (evE X q) kk (mm + 2)) scope.names [.If t [.Return (some re) pr] [] pi, s2, s3] (bindPs Γc [Lx, Rx] [.int (L : Int), .int (R : Int)]) [] = some (.nxt, Γ', []) := by
        rw [evSs_cons (Γ1 := bindPs Γc [Lx, Rx] [.int (L : Int), .int (R : Int)]) (Ω1 := [])]
        · exact hss
        · rw [evS_If (ht _ _), htest]; rfl
      refine ss_then okS rmL hpre f1 fun G2 s2 t2 f2 => ?_
      have fc2 : FcAt B s2.heap fa body scope cl fd := (fc.kx kx fun h => nomatch h).kx t2.kx fun h => by
        have := (mem_Wn.mp h)
        rcases (hO fa).mp this.1 with q | q
        · have := hV fa q
          obtain ⟨o, ho, _⟩ := fc.ob
          exact Nat.not_lt.mpr this (Heap.lt_size ho)
        · exact this.2 q
      have clo2 : Clo B G2 s2 scope.names cl Γc := (clo.kx kx st (fun _ h => nomatch h) fun _ _ _ h => nomatch h).kx t2.kx f1.st (fun a ha => (mem_Wn.mp ha).1) fun x c hc h => by
        have := mem_Wn.mp h
        rcases (hO c).mp this.1 with q | q
        · exact Nat.not_lt.mpr (hV c q) (clo.old x c (mem_of_lookup hc))
        · exact this.2 q
      have md := mid_of hLR hbase hk'
      rw [mid_int (Nat.le_of_lt hLR)] at ha1 ha2 hsh
      rw [mid_sh (Nat.le_of_lt md.lm)] at hsh
      generalize (L + R) / 2 = M at *
      have hLM := md.lm
      have hMR := md.mr
      have b1 := val_bound n (seg ds M R) fun d hd => hds d (seg_mem hd)
      rw [seg_len (Nat.le_of_lt hMR) hR] at b1
      refine WP.ret1 (WP.binop (WP.binop (callCel_ok okE rmL f2.kn f2.se hk hfn h1 h2 ha1 fun vs3 G3 s3 k3 r3 => ?_)))
      have fc3 := fc2.ke k3
      refine ⟨fc3.isFn, ih M R hMR hR md.k1 _ G3 s3 vs3 _ _ (rm1.less (by omega)) (f2.st.ke k3) fc3 (clo2.ke k3 f2.st) r3 fun v4 G4 s4 k4 r4 => ?_⟩
      have k04 := k3.trans k4
      refine okE scope.names Γ' sh _ hsh _ G4 s4 env _ _ rmL f2.kn (f2.se.ke k04) fun v5 G5 s5 k5 r5 => ?_
      have st4 := f2.st.ke k04
      have st5 := st4.ke k5
      have hL : binop .LShift (.int (val n (seg ds M R))) (.int ((n * (M - L) : Nat) : Int)) = some (.int (val n (seg ds M R) * 2 ^ (n * (M - L)))) := by
        have hcond : (0 : Int) ≤ ((n * (M - L) : Nat) : Int) ∧ (Builtin.Int.intBits (val n (seg ds M R)) : Int) + ((n * (M - L) : Nat) : Int) ≤ 2 ^ 27 :=
          ⟨Int.natCast_nonneg _, bits_sum (intBits_le b1.1 b1.2) (Nat.mul_le_mul hn (sub_64 hR hlen)) (Nat.mul_le_mul hn (sub_64 (Nat.le_trans (Nat.le_of_lt hMR) hR) hlen))⟩
        show intOp .LShift _ _ = _
        unfold intOp
        dsimp only
        rw [if_pos hcond, Int.toNat_natCast]
      refine binop_ok st5 (r4.ke st4 k5) r5 hL fun v6 G6 s6 k6 r6 => ?_
      have k06 := (k04.trans k5).trans k6
      refine callCel_ok okE rmL f2.kn (f2.se.ke k06) hk hfn h1 h2 ha2 fun vs7 G7 s7 k7 r7 => ?_
      have k07 := k06.trans k7
      have fc7 := fc2.ke k07
      refine ⟨fc7.isFn, ih L M hLM (Nat.le_trans (Nat.le_of_lt hMR) hR) md.k2 _ G7 s7 vs7 _ _ (rm1.less (by omega)) (f2.st.ke k07) fc7 (clo2.ke k07 f2.st) r7 fun v8 G8 s8 k8 r8 => ?_⟩
      have st6 := f2.st.ke k06
      have st7 := f2.st.ke k07
      refine binop_ok (st7.ke k8) ((r6.ke st6 k7).ke st7 k8) r8 (d := .int (val n (seg ds L R))) ?_ fun v9 G9 s9 k9 r9 => ?_
      · show some (D.int _) = _
        rw [seg_split (ds := ds) (L := L) (M := M) (R := R) (Nat.le_of_lt hLM) (Nat.le_of_lt hMR), val_append, seg_len (Nat.le_of_lt hLM) (Nat.le_trans (Nat.le_of_lt hMR) hR)]
        exact congrArg (fun z => some (D.int z)) (Int.add_comm _ _)
      · refine hq1 _ _ (hQ _ _ _ (Fm.ke_of hO hV kx (t2.trans (Tr.ke f2.st ((k07.trans k8).trans k9)))) ?_)
        exact r9.intK fun t => .int _ t
end
end Mine

end
section
open PySem PySem.W PyProof.Rows
set_option Elab.async false
namespace Mine

section
variable {B : Bs} {L0 : Nat} {X : Nv} {q kk mm : Nat}

theorem FcAt.st {G : Gh} {s : Shared} {a : Addr} {body : List Stmt} {scope : Scope} {cl : List (Str × Addr)} {fd : FuncData} (f : FcAt B B.h0 a body scope cl fd) (st : St B G s) : FcAt B s.heap a body scope cl fd := by
  obtain ⟨o, ho, hd⟩ := f.ob
  obtain ⟨c, oc, vs, t, h1, h2, h3, h4, h5⟩ := f.cd
  exact ⟨f.nt, ⟨o, st.kp a o f.nt ho, hd⟩, f.sc, f.bd, f.gl, f.bl, f.cl, c, oc, vs, t, h1, st.kp c oc (code_not_tb h2 h3 (vs := vs)) h2, h3, h4, h5⟩
theorem Clo.none {G : Gh} {s : Shared} {names : Kd} (h : noFree names = true) : Clo B G s names [] [] := ⟨fun _ _ h => (nomatch h), fun _ _ h => (nomatch h), fun x hx => absurd hx (noFree_mem h), fun _ _ h => (nomatch h)⟩

theorem truth_lst {xs : List D} (h : (xs.length : Int) < 2 ^ 63) : truth (.lst xs) = some (!xs.isEmpty) := by
  unfold truth
  rw [show isNone (.lst xs) = false from rfl, cond_false, show boolOf1 (.lst xs) = none from rfl, show intOf1 (.lst xs) = none from rfl, show lstOf1 (.lst xs) = some xs from rfl, orE_none, orE_none, Option.bind_some, decide_eq_true h]; rfl
theorem WP.ifexp {A : Around} {s : Shared} {env : Env} {E : Value → Shared → Prop} {t b o : Expr} {p : Pos} {Q : Value → Shared → Prop} (h : WP B A (isTrue t env (eval t env)) (fun c s1 => WP B A (if c then eval b env else eval o env) Q E s1) E s) : WP B A (eval (.IfExp t b o p) env) Q E s :=
  ⟨@wpAny_IfExp _ _ _ _ _ _ _ _ _ _ (@wpAny_mono _ _ _ _ _ _ _ _ _ h.w (fun c _ x => by cases c <;> exact x.w) fun _ _ x => x)⟩
theorem WP.exec1 {A : Around} {s : Shared} {env : Env} {E : Value → Shared → Prop} {st : Stmt} {r : List Stmt} {Q : Flow → Shared → Prop} (h : WP B A (exec st env) (fun f s1 => f = .next ∧ WP B A (execs r env) Q E s1) E s) : WP B A (execs (st :: r) env) Q E s :=
  ⟨@wpAny_execs_cons _ _ _ _ _ _ _ _ (@wpAny_mono _ _ _ _ _ _ _ _ _ h.w (fun f _ x => by obtain ⟨rfl, x⟩ := x; exact x.w) fun _ _ x => x)⟩

theorem d2i_ok (nv : NvOk B L0 X) {a c P : Addr} {body ibody : List Stmt} {scope iscope : Scope} {fd : FuncData} {params : Arguments} {dx nx Lx Rx nm qual : Str} {ipos p1' p2' p3' p4' : Pos} {te e1 e2 oe : Expr}
    (fc0 : FcAt B B.h0 a body scope [] fd) (hsc : scOk scope = true) (hnf : noFree scope.names = true) (hsd : storable scope.names dx = true) (hsn : storable scope.names nx = true) (hbind : ∀ v w, bindArgs fd ⟨[v, w], []⟩ = pure [(dx, v), (nx, w)])
    (hcode : fd.code = .ref c) (C : CodeHd B.h0 c P) (hP : P ∈ B.tb) (hdn : B.dn P = (ipos, qual)) (hq : (fd.qualname ++ ".<locals>." ++ nm : Str) = qual) (hbm : B.h0.BuiltinsAt B.mg P)
    (hb : body = [.FunctionDef nm params ibody [] none [] iscope none nm ipos, .Return (some (.IfExp te (.Call (.Name nm p1') [e1, e2] [] p2') oe p3')) p4'])
    (hd0 : params.defaults = []) (hk0 : params.kw_defaults = []) (ha : ∀ env, annTrees params none env = []) (hfree : freeCel scope.names iscope.names = true) (hx : look scope.names nm = some .cell)
    {ds : List Int} {n : Nat}
    (hte : ∀ fa, evE X q scope.names (put (bindPs [] [dx, nx] [.lst (ds.map D.int), .int n]) nm (.ref fa)) te = some (.lst (ds.map D.int)))
    (he : ∀ fa, each (evE X q scope.names (put (bindPs [] [dx, nx] [.lst (ds.map D.int), .int n]) nm (.ref fa))) [e1, e2] = some [.int 0, .int (ds.map D.int).length])
    (hoe : ∀ fa, evE X q scope.names (put (bindPs [] [dx, nx] [.lst (ds.map D.int), .int n]) nm (.ref fa)) oe = some (.int 0))
    {t re a1 a2 a3 a4 sh : Expr} {s2 s3 : Stmt} {pr pi p1 p2 p3 p4 p5 p6 p7 : Pos}
    (hisc : scOk iscope = true) (hsL : storable iscope.names Lx = true) (hsR : storable iscope.names Rx = true)
    (hibind : ∀ doc pm c' ctv cl v w, bindArgs (fnX nm qual params ibody iscope cl .none .none doc pm none (.ref c') ctv) ⟨[v, w], []⟩ = pure [(Lx, v), (Rx, w)])
    (hib : ibody = [.If t [.Return (some re) pr] [] pi, s2, s3] ++ [.Return (some (.BinOp (.BinOp (.Call (.Name nm p1) [a1, a2] [] p2) .LShift sh p3) .Add (.Call (.Name nm p4) [a3, a4] [] p5) p6)) p7])
    (hds : ∀ d ∈ ds, 0 ≤ d ∧ d < 2 ^ n) (hlen : ds.length ≤ 64) (hn : n ≤ 2 ^ 14) (hk : kc (look iscope.names nm) = .cel) (h1 : strEq nm "__debug__" = false) (h2 : strEq nm "__classdict__" = false)
    (ht : ∀ fa, ∀ L R : Int, testD (evE X q iscope.names) (bindPs (freeG (put (bindPs [] [dx, nx] [.lst (ds.map D.int), .int n]) nm (.ref fa)) iscope.names) [Lx, Rx] [.int L, .int R]) [] t = some (L + 1 == R, bindPs (freeG (put (bindPs [] [dx, nx] [.lst (ds.map D.int), .int n]) nm (.ref fa)) iscope.names) [Lx, Rx] [.int L, .int R], []))
    (hr : ∀ fa, ∀ (L R : Int), evE X q iscope.names (bindPs (freeG (put (bindPs [] [dx, nx] [.lst (ds.map D.int), .int n]) nm (.ref fa)) iscope.names) [Lx, Rx] [.int L, .int R]) re = itemD (.lst (ds.map D.int)) (.int L))
    (hm : ∀ fa, ∀ L R : Int, 0 ≤ L → L < R → R ≤ 64 → ∃ Γ', evSs (evS noHk (evE X q) kk (mm + 2)) iscope.names [s2, s3] (bindPs (freeG (put (bindPs [] [dx, nx] [.lst (ds.map D.int), .int n]) nm (.ref fa)) iscope.names) [Lx, Rx] [.int L, .int R]) [] = some (.nxt, Γ', []) ∧ each (evE X q iscope.names Γ') [a1, a2] = some [.int ((L + R).fdiv (2 ^ 1)), .int R] ∧
      each (evE X q iscope.names Γ') [a3, a4] = some [.int L, .int ((L + R).fdiv (2 ^ 1))] ∧ evE X q iscope.names Γ' sh = some (.int (((L + R).fdiv (2 ^ 1) - L) * n)) ∧ look Γ' nm = some (.ref fa)) :
    OkCall B (L0 + 70) (.ref a) [.lst (ds.map D.int), .int n] (.int (val n ds)) := by
  intro A G s vs E Q rm st r hQ
  obtain ⟨v, w, rfl, rv, rw'⟩ := r.two
  have fc := fc0.st st
  refine enter_fc (m := L0 + 69) fc hsc (hbind v w) ?_ st (Clo.none hnf) (ds := [.lst (ds.map D.int), .int n]) (.cons rv (.cons rw' .nil)) rm fun env G1 s1 V Q1 E1 f1 kx hO hV hec heq _ hq1 _ rm1 => ?_
  · intro p hp
    rcases List.mem_cons.mp hp with e | e
    · rw [e]; exact hsd
    · rw [List.mem_singleton.mp e]; exact hsn
  have okE := (evE_ok nv q).1
  have okT := (evE_ok nv q).2
  have rmL : Room L0 (A.deeper env) := rm1.less (by omega)
  have hst : storable scope.names nm = true := by unfold storable; rw [hx]
  have hqn : qualnameIn env nm nm = qual := by
    unfold qualnameIn
    have hkd : env.kindOf nm = some .cell := (f1.ow.cel nm hx).1
    rw [hkd, heq, ← hq]; rfl
  rw [hb]
  refine WP.exec1 (def_ok f1 hd0 hk0 (ha env) (hec.trans hcode) C hP hdn hqn hbm hfree hst fun fa ifd s2' t2 f2 hfa fci hfd => ⟨rfl, ?_⟩)
  obtain ⟨doc, pm, c', ctv, hfd⟩ := hfd
  have clo2 := f2.se.clo (names := iscope.names) fun x hm => by rw [← f2.kn x]; exact freeCel_mem hfree hm
  refine WP.ret1 (WP.ifexp ?_)
  by_cases hnil : ds = []
  · have htr : truth (.lst (ds.map D.int)) = some false := by subst hnil; rfl
    refine okT scope.names _ te _ false (hte fa) htr _ _ _ env _ _ rmL f2.kn f2.se fun G3 s3 k3 => ?_
    rw [if_neg (by simp)]
    refine okE scope.names _ oe _ (hoe fa) _ _ _ env _ _ rmL f2.kn (f2.se.ke k3) fun v4 G4 s4 k4 r4 => ?_
    refine hq1 _ _ (hQ _ _ _ (Fm.ke_of hO hV kx (t2.trans (Tr.ke f2.st (k3.trans k4)))) ?_)
    subst hnil
    exact r4.intK fun _ => .int _ _
  · have hlen0 : 0 < ds.length := List.length_pos_iff.mpr hnil
    have hl63 : ((ds.map D.int).length : Int) < 2 ^ 63 := by rw [List.length_map]; omega
    have htr : truth (.lst (ds.map D.int)) = some true := by
      rw [truth_lst hl63]
      cases ds with
      | nil => exact absurd rfl hnil
      | cons _ _ => rfl
    refine okT scope.names _ te _ true (hte fa) htr _ _ _ env _ _ rmL f2.kn f2.se fun G3 s3 k3 => ?_
    rw [if_pos rfl]
    refine callCel_ok okE rmL f2.kn (f2.se.ke k3) (by rw [hx]; rfl) (by rw [look_put, if_pos rfl]) h1 h2 (he fa) fun vs4 G4 s4 k4 r4 => ?_
    have k04 := k3.trans k4
    have fc4 := fci.ke k04
    refine ⟨fc4.isFn, ?_⟩
    have hseg : seg ds 0 ds.length = ds := by unfold seg; simp
    refine d2i_inner (kk := kk) (mm := mm) nv hisc hsL hsR (fun v w => by rw [hfd]; exact hibind doc pm c' ctv _ v w) hib hds hlen hn hk h1 h2 (ht fa) (hr fa) (hm fa) ds.length 0 ds.length hlen0 (Nat.le_refl _) (by omega) _ G4 s4 vs4 _ _ (rm1.less (by omega)) (f2.st.ke k04) fc4 (clo2.ke k04 f2.st) (by simpa using r4) fun v5 G5 s5 k5 r5 => ?_
    rw [hseg] at r5
    refine hq1 _ _ (hQ _ _ _ (Fm.ke_of hO hV kx (t2.trans (Tr.ke f2.st (k04.trans k5)))) ?_)
    exact r5.intK fun _ => .int _ _
end
end Mine

end
section
open PySem PySem.W PyProof.Rows
set_option Elab.async false
namespace Mine

noncomputable def digs (n : Nat) : Nat → Nat → List Int
  | 0, _ => []
  | k + 1, x => ((x % 2 ^ n : Nat) : Int) :: digs n k (x / 2 ^ n)
theorem digs_len (n : Nat) : ∀ (k x : Nat), (digs n k x).length = k
  | 0, _ => rfl
  | k + 1, x => by simp [digs, digs_len n k]
theorem digs_one {n x : Nat} (h : x < 2 ^ n) : digs n 1 x = [(x : Int)] := by simp [digs, Nat.mod_eq_of_lt h]
theorem digs_split (n : Nat) : ∀ (j k x : Nat), digs n (j + k) x = digs n j (x % 2 ^ (n * j)) ++ digs n k (x / 2 ^ (n * j))
  | 0, k, x => by simp [digs]
  | j + 1, k, x => by
    have e : n * (j + 1) = n + n * j := by rw [Nat.mul_add, Nat.mul_one, Nat.add_comm]
    rw [show j + 1 + k = (j + k) + 1 by omega]
    simp only [digs]
    rw [digs_split n j k (x / 2 ^ n), e, Nat.pow_add, Nat.mod_mul_right_div_self, Nat.mod_mod_of_dvd _ (Nat.dvd_mul_right _ _), Nat.div_div_eq_div_mul]
    rfl
noncomputable def rep (ys : List Int) (L : Nat) (ds : List Int) : List Int := ys.take L ++ ds ++ ys.drop (L + ds.length)
theorem rep_len {ys : List Int} {L : Nat} {ds : List Int} (h : L + ds.length ≤ ys.length) : (rep ys L ds).length = ys.length := by
  unfold rep
  rw [List.length_append, List.length_append, List.length_take, List.length_drop, Nat.min_eq_left (Nat.le_trans (Nat.le_add_right _ _) h), Nat.add_sub_cancel' h]
theorem rep_set {ys : List Int} {L : Nat} {x : Int} (h : L < ys.length) : ys.set L x = rep ys L [x] := by
  unfold rep
  rw [List.set_eq_take_append_cons_drop, if_pos h]; simp
theorem rep_rep {ys : List Int} {L : Nat} {d1 d2 : List Int} (h : L + d1.length + d2.length ≤ ys.length) : rep (rep ys L d1) (L + d1.length) d2 = rep ys L (d1 ++ d2) := by
  unfold rep
  have h1 : (ys.take L ++ d1).length = L + d1.length := by rw [List.length_append, List.length_take, Nat.min_eq_left (Nat.le_trans (Nat.le_add_right _ _) (Nat.le_trans (Nat.le_add_right _ _) h))]
  rw [List.take_append_of_le_length (Nat.le_of_eq h1.symm), List.take_of_length_le (Nat.le_of_eq h1), List.drop_append, h1, List.drop_eq_nil_of_le (by rw [h1]; exact Nat.le_add_right _ _), List.nil_append, List.drop_drop]
  have e : L + d1.length + (L + d1.length + d2.length - (L + d1.length)) = L + (d1.length + d2.length) := by rw [Nat.add_sub_cancel_left, Nat.add_assoc]
  simp only [List.append_assoc, List.length_append, e]
theorem xor_low {x k : Nat} : Builtin.bitXor (x : Int) (((x : Int).fdiv (2 ^ k)) * 2 ^ k) = ((x % 2 ^ k : Nat) : Int) := by
  have e : ((x : Int).fdiv (2 ^ k)) * 2 ^ k = ((x / 2 ^ k * 2 ^ k : Nat) : Int) := by
    rw [Int.fdiv_eq_ediv_of_nonneg _ (Int.le_of_lt (two_pow_pos k))]
    simp
  rw [e, bitXor_and]
  have e2 : Builtin.bitAnd (x : Int) ((x / 2 ^ k * 2 ^ k : Nat) : Int) = ((x / 2 ^ k * 2 ^ k : Nat) : Int) := by
    unfold Builtin.bitAnd
    have h1 : decide ((0 : Int) ≤ (x : Int)) = true := decide_eq_true (Int.natCast_nonneg _)
    have h2 : decide ((0 : Int) ≤ ((x / 2 ^ k * 2 ^ k : Nat) : Int)) = true := decide_eq_true (Int.natCast_nonneg _)
    rw [h1, h2]
    simp only [Int.toNat_natCast]
    congr 1
    apply Nat.eq_of_testBit_eq
    intro i
    rw [Nat.testBit_and, Nat.testBit_mul_two_pow, Nat.testBit_div_two_pow]
    by_cases h : k ≤ i
    · rw [Nat.sub_add_cancel h]; simp [h]
    · simp [h]
  rw [e2]
  rw [Int.two_mul, Int.add_sub_add_right, ← Int.natCast_sub (Nat.div_mul_le_self x (2 ^ k)), Nat.mul_comm, ← Nat.mod_eq_sub_mul_div]
theorem fdiv_nat {x k : Nat} : (x : Int).fdiv (2 ^ k) = ((x / 2 ^ k : Nat) : Int) := by
  rw [Int.fdiv_eq_ediv_of_nonneg _ (Int.le_of_lt (two_pow_pos k))]
  simp

section
variable {B : Bs} {A : Around} {O0 : List Addr} {G G' : Gh} {s s' : Shared} {sc : Kd} {env : Env} {V : List Addr} {Γ : Gm} {E : Value → Shared → Prop} {l : Addr}
theorem RdL.ints {h h' : Heap} : ∀ {ys : List Int} {vs : List Value}, RdL G h vs (ys.map D.int) → RdL G' h' vs (ys.map D.int)
  | [], _, r => r.nilK .nil
  | y :: ys, _, r => by
    rw [List.map_cons] at r ⊢
    exact r.consK fun _ _ a b => a.intK fun _ => .cons (.int _ _) (RdL.ints b)
theorem RdL.setAt {h : Heap} : ∀ {vs : List Value} {ds : List D} {i : Nat} {v : Value} {d : D}, RdL G h vs ds → Rd G h v d → RdL G h (vs.set i v) (ds.set i d)
  | _, _, _, _, _, .nil, _ => .nil
  | _, _, 0, _, _, .cons _ b, r => .cons r b
  | _, _, i + 1, _, _, .cons a b, r => .cons a (RdL.setAt b r)

theorem Fm.kwO (f : Fm B O0 G s sc env V Γ []) (k : Kw B [l] G s G' s') (hl : l ∈ O0) (h0 : B.h0.get? l = none) (hc : ∀ y c, env.cells.lookup y = some c → c ≠ l) : Fm B O0 G' s' sc env V Γ [] := by
  obtain ⟨Γp, α, β, se, h1, _, _⟩ := f.has
  have hlO := f.oo l hl
  have hW : ∀ a ∈ [l], a ∈ G.O := fun a ha => by rw [List.mem_singleton.mp ha]; exact hlO
  have h0' : ∀ a ∈ [l], B.h0.get? a = none := fun a ha => by rw [List.mem_singleton.mp ha]; exact h0
  have hloc : env.locals ∉ [l] := fun q => f.vo _ f.ow.loc (List.mem_singleton.mp q ▸ hl)
  have hc' : ∀ y c, env.cells.lookup y = some c → c ∉ [l] := fun y c hy q => hc y c hy (List.mem_singleton.mp q)
  exact ⟨f.vo, fun a ha => k.o ▸ f.oo a ha, f.tb, fun a ha => f.nw a (k.o ▸ ha), f.ow.kw k fun x c _ hx => hc' x c hx, f.kn, fun y c hy => Nat.lt_of_lt_of_le (f.cz y c hy) k.sz, Γp, α, β, se.kw k hW h0' hloc hc', h1, fun _ _ h => (nomatch h), fun _ _ _ _ h => (nomatch h)⟩

theorem WP.exprNone {e : Expr} {p : Pos} {Q : Flow → Shared → Prop} (hi : interactive env = false) (hs : swapsWith e none p.line env = Pure.pure false) (hn : ∀ v : Value, v = .none → dropValue e p v = Pure.pure Flow.next)
    (h : WP B A (eval e env) (fun v s1 => v = .none ∧ Q .next s1) E s) : WP B A (exec (.Expr e p) env) Q E s := by
  rw [exec_Expr env _ _ hi hs]
  refine WP.bind (WP.standAt (WP.bind (h.post fun v s1 q => ?_)))
  obtain ⟨rfl, q⟩ := q
  rw [hn _ rfl]
  exact WP.pure q
end

section
variable {B : Bs} {L0 : Nat} {X : Nv} {q kk mm : Nat}

theorem i2d_inner (nv : NvOk B L0 X) {fa l : Addr} {body : List Stmt} {scope : Scope} {cl : List (Str × Addr)} {fd : FuncData} {Γc : Gm} {xx Lx Rx nm xn : Str} {t ce ie a1 a2 a3 a4 a5 a6 : Expr} {s2 s3 s4 s5 : Stmt} {q3 q4 q5 q6 pi p1 p2 p3 p4 p5 p6 : Pos} {n N : Nat}
    (hsc : scOk scope = true) (hsx : storable scope.names xx = true) (hsL : storable scope.names Lx = true) (hsR : storable scope.names Rx = true) (hbind : ∀ u v w, bindArgs fd ⟨[u, v, w], []⟩ = pure [(xx, u), (Lx, v), (Rx, w)])
    (hb : body = [.If t [.Assign [.Subscript ce ie q3] (.Name xn q4) q5, .Return none q6] [] pi, s2, s3, s4, s5] ++ [.Expr (.Call (.Name nm p1) [a1, a2, a3] [] p2) p3, .Expr (.Call (.Name nm p4) [a4, a5, a6] [] p5) p6])
    (hN : N ≤ 64) (hn : n ≤ 2 ^ 14) (hk : kc (look scope.names nm) = .cel) (h1 : strEq nm "__debug__" = false) (h2 : strEq nm "__classdict__" = false) (hl0 : B.h0.get? l = none)
    (ht : ∀ x L R : Int, testD (evE X q scope.names) (bindPs Γc [xx, Lx, Rx] [.int x, .int L, .int R]) [] t = some (L + 1 == R, bindPs Γc [xx, Lx, Rx] [.int x, .int L, .int R], []))
    (hce : ∀ x L R : Int, evE X q scope.names (bindPs Γc [xx, Lx, Rx] [.int x, .int L, .int R]) ce = some (.ref l))
    (hie : ∀ x L R : Int, evE X q scope.names (bindPs Γc [xx, Lx, Rx] [.int x, .int L, .int R]) ie = some (.int L))
    (hve : ∀ x L R : Int, evE X q scope.names (bindPs Γc [xx, Lx, Rx] [.int x, .int L, .int R]) (.Name xn q4) = some (.int x))
    (hm : ∀ x L R : Int, 0 ≤ L → L < R → R ≤ 64 → 0 ≤ ((L + R).fdiv (2 ^ 1) - L) * n → (Builtin.Int.intBits (x.fdiv (2 ^ (((L + R).fdiv (2 ^ 1) - L) * n).toNat)) : Int) + ((L + R).fdiv (2 ^ 1) - L) * n ≤ 2 ^ 27 →
      ∃ Γ', evSs (evS noHk (evE X q) kk (mm + 2)) scope.names [s2, s3, s4, s5] (bindPs Γc [xx, Lx, Rx] [.int x, .int L, .int R]) [] = some (.nxt, Γ', []) ∧
      each (evE X q scope.names Γ') [a1, a2, a3] = some [.int (Builtin.bitXor x (x.fdiv (2 ^ (((L + R).fdiv (2 ^ 1) - L) * n).toNat) * 2 ^ (((L + R).fdiv (2 ^ 1) - L) * n).toNat)), .int L, .int ((L + R).fdiv (2 ^ 1))] ∧
      each (evE X q scope.names Γ') [a4, a5, a6] = some [.int (x.fdiv (2 ^ (((L + R).fdiv (2 ^ 1) - L) * n).toNat)), .int ((L + R).fdiv (2 ^ 1)), .int R] ∧ look Γ' nm = some (.ref fa)) :
    ∀ (k L R x : Nat), L < R → R ≤ N → R - L ≤ k → x < 2 ^ (n * (R - L)) → ∀ A G s vs ys items nn Q E, Room (L0 + k + 1) A → St B G s → FcAt B s.heap fa body scope cl fd → Clo B G s scope.names cl Γc → RdL G s.heap vs [.int (x : Int), .int (L : Int), .int (R : Int)] →
      l ∈ G.O → LstAt s.heap l items nn → RdL G s.heap items.toList (ys.map D.int) → ys.length = N → (∀ y c, cl.lookup y = some c → c ≠ l) →
      (∀ G' s' items' nn', Kw B [l] G s G' s' → LstAt s'.heap l items' nn' → RdL G' s'.heap items'.toList ((rep ys L (digs n (R - L) x)).map D.int) → Q .none s') → WP B A (call (.ref fa) vs) Q E s := by
  intro k
  induction k with
  | zero => intro L R x h1 _ h3; exact absurd h1 (Nat.not_lt.mpr (Nat.le_of_sub_eq_zero (Nat.le_zero.mp h3)))
  | succ k ih =>
    intro L R x hLR hR hk' hx A G s vs ys items nn Q E rm st fc clo r hlO hl hys hyl hcl hQ
    obtain ⟨u, v, w, rfl, ru, rv, rw'⟩ := r.three
    have hlt : l ∉ B.tb := not_tb hl0
    refine enter_fc (m := L0 + k + 1) fc hsc (hbind u v w) ?_ st clo (ds := [.int (x : Int), .int (L : Int), .int (R : Int)]) (.cons ru (.cons rv (.cons rw' .nil))) rm fun env G1 s1 V Q1 E1 f1 kx hO hV _ _ hcells hq1 hq2 rm1 => ?_
    · intro p hp
      rcases List.mem_cons.mp hp with q | hp
      · rw [q]; exact hsx
      rcases List.mem_cons.mp hp with q | q
      · rw [q]; exact hsL
      · rw [List.mem_singleton.mp q]; exact hsR
    have okS := evS_ok (H := noHk) nv noHk_ok q kk (mm + 2)
    have okE := (evE_ok nv q).1
    have okT := (evE_ok nv q).2
    have rmL : Room L0 (A.deeper env) := rm1.less (by omega)
    have hl1O : l ∈ G1.O := (hO l).mpr (.inr hlO)
    have hl1 : LstAt s1.heap l items nn := kx.kw.kp l _ (fun q => hlt (by simpa using q)) hl
    have hsl : l < s.heap.objs.size := Heap.lt_size hl
    have hc1 : ∀ y c, env.cells.lookup y = some c → c ≠ l := fun y c hy e => (hcells y c hy).elim (fun q => absurd (hV c q) (by rw [e]; exact Nat.not_le.mpr hsl)) fun q => hcl y c q e
    have kx1 : Kx B [l] G s G1 s1 := kx.mono fun _ h => nomatch h
    have hWn : ∀ a ∈ Wn G1 G.O, a ∈ [l] ∨ s.heap.objs.size ≤ a := fun a ha => by
      obtain ⟨g1, g2⟩ := mem_Wn.mp ha
      exact .inr (((hO a).mp g1).elim (hV a) fun q => absurd q g2)
    by_cases hbase : L + 1 = R
    · subst hbase
      rw [hb]
      have htest : ((L : Int) + 1 == ((L + 1 : Nat) : Int)) = true := end_yes
      refine ⟨@wpAny_execs_cons _ _ _ _ _ _ _ _ (@wpAny_If _ _ _ _ _ _ _ _ _ _ (test_okS okT rmL f1 (ht _ _ _) fun G2 s2 t2 f2 => ?_).w)⟩
      rw [htest, if_pos rfl]
      refine @wpAny_execs_cons _ _ _ _ _ _ _ _ (@wpAny_Assign_Subscript _ _ _ _ _ _ _ _ _ _ _ (okE scope.names _ (.Name xn q4) _ (hve _ _ _) _ G2 s2 env _ _ rmL f2.kn f2.se fun v3 G3 s3 k3 r3 => (okE scope.names _ ce _ (hce _ _ _) _ G3 s3 env _ _ rmL f2.kn (f2.se.ke k3) fun v4 G4 s4 k4 r4 => (okE scope.names _ ie _ (hie _ _ _) _ G4 s4 env _ _ rmL f2.kn ((f2.se.ke k3).ke k4) fun v5 G5 s5 k5 r5 => ?_).w).w).w rfl)
      refine r4.refK (r5.intK fun t5 => ?_)
      have k35 := (k3.trans k4).trans k5
      have tt := t2.trans (Tr.ke f2.st k35)
      have hl5 : LstAt s5.heap l items nn := tt.kx.kw.kp l _ (fun q => (List.mem_append.mp q).elim (fun q => (mem_Wn.mp q).2 hlO) hlt) hl1
      have hisz : items.size = N := by rw [← hyl, hys.size, List.length_map]
      have st5 := f2.st.ke k35
      refine @ki_setAt _ _ _ _ _ _ _ _ _ _ _ _ hl5 (Int.natCast_nonneg _) (idx_lt hR hN) (by rw [hisz]; exact Int.ofNat_lt.mpr hR) ?_
      have hs' := Heap.SameBut.update s5.heap l (Obj.mapSeq (·.setIfInBounds ((L : Int)).toNat v3))
      have kw5 : Kw B [l] G5 s5 G5 { s5 with heap := s5.heap.update l (Obj.mapSeq (·.setIfInBounds ((L : Int)).toNat v3)) } := Kw.same1 st5 (List.mem_singleton.mpr rfl) hlt hs' (Nat.le_refl _) hl5.nc
      refine @wpAny_execs_cons _ _ _ _ _ _ _ _ (@wpAny_Return_none _ _ _ _ _ _ _ ?_)
      have kt := (kx1.trans tt.kx hWn).trans (Kx.of_kw st5 kw5) fun a ha => .inl ha
      refine hq1 _ _ (hQ _ _ (items.setIfInBounds ((L : Int)).toNat v3) _ kt.kw (PySem.IsL.update hl5 _) ?_)
      rw [Nat.add_sub_cancel_left, digs_one (by rw [Nat.add_sub_cancel_left, Nat.mul_one] at hx; exact hx), ← rep_set (hyl ▸ hR), Array.toList_setIfInBounds, List.map_set, Int.toNat_natCast]
      exact RdL.setAt (RdL.ints hys) (r3.intK fun t => .int _ t)
    · have htest : ((L : Int) + 1 == (R : Int)) = false := end_no hbase
      have md := mid_of hLR hbase hk'
      have hmm := hm x L R (Int.natCast_nonneg _) (Int.ofNat_lt.mpr hLR) (int_le64 hR hN)
      rw [mid_int (Nat.le_of_lt hLR), mid_sh (Nat.le_of_lt md.lm), Int.toNat_natCast, xor_low, fdiv_nat] at hmm
      generalize (L + R) / 2 = M at *
      have hLM := md.lm
      have hMR := md.mr
      have hMN : M ≤ N := Nat.le_trans (Nat.le_of_lt hMR) hR
      have hup : x / 2 ^ (n * (M - L)) < 2 ^ (n * (R - M)) := by
        rw [Nat.div_lt_iff_lt_mul (Nat.two_pow_pos _), ← Nat.pow_add, ← Nat.mul_add]
        rw [md.sum]; exact hx
      have hlo : x % 2 ^ (n * (M - L)) < 2 ^ (n * (M - L)) := Nat.mod_lt _ (Nat.two_pow_pos _)
      have hbits : Builtin.Int.intBits ((x / 2 ^ (n * (M - L)) : Nat) : Int) ≤ n * (R - M) := intBits_le (Int.natCast_nonneg _) (by
        have : ((x / 2 ^ (n * (M - L)) : Nat) : Int) < ((2 ^ (n * (R - M)) : Nat) : Int) := Int.ofNat_lt.mpr hup
        simpa using this)
      have h3 : n * (R - M) ≤ 2 ^ 14 * 64 := Nat.mul_le_mul hn (sub_64 hR hN)
      have h4 : n * (M - L) ≤ 2 ^ 14 * 64 := Nat.mul_le_mul hn (sub_64 hMN hN)
      obtain ⟨Γ', hss, ha1, ha2, hfn⟩ := hmm (Int.natCast_nonneg _) (bits_sum hbits h3 h4)
      rw [hb]
      have hpre : evSs (evS noHk (evE X q) kk (mm + 2)) scope.names [.If t [.Assign [.Subscript ce ie q3] (.Name xn q4) q5, .Return none q6] [] pi, s2, s3, s4, s5] (bindPs Γc [xx, Lx, Rx] [.int (x : Int), .int (L : Int), .int (R : Int)]) [] = some (.nxt, Γ', []) := by
        rw [evSs_cons (Γ1 := bindPs Γc [xx, Lx, Rx] [.int (x : Int), .int (L : Int), .int (R : Int)]) (Ω1 := [])]
        · exact hss
        · rw [evS_If (ht _ _ _), htest]; rfl
      refine ss_then okS rmL hpre f1 fun G2 s2 t2 f2 => ?_
      have hfa : fa ∉ Wn G1 G.O := fun h => by
        have := mem_Wn.mp h
        rcases (hO fa).mp this.1 with q | q
        · obtain ⟨o, ho, _⟩ := fc.ob
          exact Nat.not_lt.mpr (hV fa q) (Heap.lt_size ho)
        · exact this.2 q
      have fal : fa ∉ [l] := fun q => by
        obtain ⟨o, ho, hd⟩ := fc.ob
        rw [List.mem_singleton.mp q, hl] at ho; cases ho; cases hd
      have fc2 : FcAt B s2.heap fa body scope cl fd := (fc.kx kx fun h => nomatch h).kx t2.kx hfa
      have clo2 : Clo B G2 s2 scope.names cl Γc := (clo.kx kx st (fun _ h => nomatch h) fun _ _ _ h => nomatch h).kx t2.kx f1.st (fun a ha => (mem_Wn.mp ha).1) fun x c hc h => by
        have := mem_Wn.mp h
        rcases (hO c).mp this.1 with q | q
        · exact Nat.not_lt.mpr (hV c q) (clo.old x c (mem_of_lookup hc))
        · exact this.2 q
      have hl2 : LstAt s2.heap l items nn := t2.kx.kw.kp l _ (fun q => (List.mem_append.mp q).elim (fun q => (mem_Wn.mp q).2 hlO) hlt) hl1
      have kx2 := kx1.trans t2.kx hWn
      have hcl' : ∀ y c, cl.lookup y = some c → c ∉ [l] := fun y c hy q => hcl y c hy (List.mem_singleton.mp q)
      have inl : ∀ a ∈ [l], a ∈ [l] ∨ s.heap.objs.size ≤ a := fun a ha => .inl ha
      have hi : interactive env = false := by unfold interactive; rw [f2.se.kind]; rfl
      have hl2O : l ∈ G2.O := f2.oo l hlO
      refine WP.exec1 (WP.exprNone hi rfl (fun v hv => by rw [hv]; rfl) (callCel_ok okE rmL f2.kn f2.se hk hfn h1 h2 ha1 fun vs3 G3 s3 k3 r3 => ?_))
      have fc3 := fc2.ke k3
      have hl3 : LstAt s3.heap l items nn := lst_kw hl2 k3 (fun h => nomatch h) hlt
      refine ⟨fc3.isFn, ih L M _ hLM hMN md.k2 hlo _ G3 s3 vs3 ys items nn _ _ (rm1.less (by omega)) (f2.st.ke k3) fc3 (clo2.ke k3 f2.st) r3 (k3.o ▸ hl2O) hl3 (RdL.ints hys) hyl hcl fun G4 s4 items4 nn4 k4 hl4 hys4 => ⟨rfl, rfl, ?_⟩⟩
      have st3 := f2.st.ke k3
      have f3 := f2.ke k3
      have f4 := f3.kwO k4 hlO hl0 hc1
      have hl4O := f4.oo l hlO
      have in3 : ∀ a ∈ [l], a ∈ G3.O := fun a ha => by rw [List.mem_singleton.mp ha]; exact k3.o ▸ hl2O
      have fc4 := fc3.kw k4 fal
      have clo4 := (clo2.ke k3 f2.st).kw k4 st3 in3 hcl'
      have kx4 := (kx2.ke k3 f2.st).trans (Kx.of_kw st3 k4) inl
      refine WP.exec1 (WP.exprNone hi rfl (fun v hv => by rw [hv]; rfl) (callCel_ok okE rmL f4.kn f4.se hk hfn h1 h2 ha2 fun vs5 G5 s5 k5 r5 => ?_))
      have fc5 := fc4.ke k5
      have hl5 : LstAt s5.heap l items4 nn4 := lst_kw hl4 k5 (fun h => nomatch h) hlt
      refine ⟨fc5.isFn, ih M R _ hMR hR md.k1 hup _ G5 s5 vs5 _ items4 nn4 _ _ (rm1.less (by omega)) (f4.st.ke k5) fc5 (clo4.ke k5 f4.st) r5 (k5.o ▸ hl4O) hl5 (RdL.ints hys4) ?_ hcl fun G6 s6 items6 nn6 k6 hl6 hys6 => ⟨rfl, rfl, ?_⟩⟩
      · rw [rep_len (by rw [digs_len, md.add, hyl]; exact hMN)]; exact hyl
      · have kx6 := (kx4.ke k5 f4.st).trans (Kx.of_kw (f4.st.ke k5) k6) inl
        refine ⟨@wpAny_execs_nil _ _ _ _ _ _ (hq2 _ (hQ _ _ items6 nn6 kx6.kw hl6 ?_))⟩
        have e : rep (rep ys L (digs n (M - L) (x % 2 ^ (n * (M - L))))) M (digs n (R - M) (x / 2 ^ (n * (M - L)))) = rep ys L (digs n (R - L) x) := by
          have e1 := rep_rep (ys := ys) (L := L) (d1 := digs n (M - L) (x % 2 ^ (n * (M - L)))) (d2 := digs n (R - M) (x / 2 ^ (n * (M - L)))) (by rw [digs_len, digs_len, md.add, hyl, Nat.add_sub_cancel' (Nat.le_of_lt hMR)]; exact hR)
          rw [digs_len, md.add] at e1
          rw [e1, ← digs_split, md.sum']
        rw [e] at hys6
        exact RdL.ints hys6
end
end Mine

end
section
open PySem PySem.W PyProof.Rows
set_option Elab.async false
namespace Mine

theorem digs_zero (n : Nat) : ∀ k : Nat, digs n k 0 = List.replicate k 0
  | 0 => rfl
  | k + 1 => by simp [digs, digs_zero n k, List.replicate_succ]
theorem rep_all {ys d : List Int} (h : d.length = ys.length) : rep ys 0 d = d := by unfold rep; simp [h]

section
variable {B : Bs} {A : Around} {G : Gh} {s : Shared} {Q : Value → Shared → Prop} {E : Value → Shared → Prop}
theorem mulLst_new {a1 : Addr} {i1 : Array Value} {n1 : Nat} {d1 : List D} {i : Int} {t : Tok} (h1 : LstAt s.heap a1 i1 n1)
    (r1 : RdL G s.heap i1.toList d1) (hs : -(2 ^ 63 : Int) ≤ i ∧ i < 2 ^ 63 ∧ d1.length * i.toNat ≤ 2 ^ 24)
    (hQ : ∀ items' : Array Value, RdL G s.heap items'.toList (List.replicate i.toNat d1).flatten → Q (.ref s.heap.objs.size) { s with heap := s.heap.push { cls := .type "list", data := .seq items' } }) : WP B A (binaryOp .Mult (.ref a1) (.int i t)) Q E s := by
  have e1 : i1.size = d1.length := by rw [← r1.length, Array.length_toList]
  refine ⟨wpAny_binaryOp_repeat_ref (T := "list") (U := "int") (by decide) ⟨_, h1, rfl⟩ (fun s' => typeIs_int s' i t) noFill_list_mul F.fills_int_mul F.slot_int_rmul repeat_list F.slot_int_index.lookup
    (call_meets F.slot_int_rmul (typeIs_int s i t) F.entry_int_rmul (F.args_int_rmul_2 _ _) (int___rmul___int_list i t a1 i1 n1)
      ⟨h1, rfl, ⟨_, h1, rfl⟩, call_meets F.slot_list_mul ⟨_, h1, rfl⟩ F.entry_list_mul (F.args_list_mul_2 _ _)
        (AutoListH.list___mul___list_int_3 a1 i1 n1 i t (by simp [Builtin.List.listFitsIndex]; omega) (by rw [e1]; omega) (by rw [e1]; simp [Builtin.List.listTooLong, sizeLine]; omega))
        ⟨h1, hQ _ ?_⟩⟩)⟩
  rw [foldl_arr, List.map_replicate]
  by_cases hm : i1.isEmpty = true
  · have hn : d1 = [] := by
      have : i1.size = 0 := by simpa using hm
      rw [e1] at this; exact List.length_eq_zero_iff.mp this
    subst hn
    simp only [hm, if_true, List.replicate_zero, List.flatten_nil]
    have : (List.replicate i.toNat ([] : List D)).flatten = [] := by simp
    rw [this]; exact .nil
  · simp only [hm]
    exact r1.flat _

theorem Sees.lend {env : Env} {Γ : Gm} {x : Str} {l : Addr} {items : Array Value} {nn : Nat} {ds : List D} (se : Sees B G s env Γ) (hl : LstAt s.heap l items nn) (hd : RdL G s.heap items.toList ds) (hx : look Γ x = some (.ref l)) (hlt : l ∉ B.tb) :
    Sees B { G with O := G.O.filter (fun a => decide (a ≠ l)) } s env (put Γ x (.lst ds)) := by
  have hsub : ∀ a ∈ G.O.filter (fun a => decide (a ≠ l)), a ∈ G.O := fun a ha => (List.mem_filter.mp ha).1
  have ht : ∀ a ∈ B.tb, a ∈ G.O.filter (fun a => decide (a ≠ l)) := fun a ha => List.mem_filter.mpr ⟨se.st.sub a ha, by simp; intro q; exact hlt (q ▸ ha)⟩
  have up := Up.free (G := G) (h := s.heap) hsub
  have st' := se.st.free hsub ht
  have se' := se.gh st' up
  have rl : Rd { G with O := G.O.filter (fun a => decide (a ≠ l)) } s.heap (.ref l) (.lst ds) := .lst (fun q => by have := (List.mem_filter.mp q).2; simp at this) hl (hd.up up)
  exact se'.know hx rl
theorem Kw.unlend {W : List Addr} {O' : List Addr} {G1 : Gh} {s1 : Shared} (k : Kw B W { G with O := O' } s G1 s1) : Kw B W G s { G1 with O := G.O } s1 := ⟨k.same, k.kp, k.tg, k.cd, k.sz, rfl, k.n, k.τ, k.tk⟩
end

theorem flat_one (d : D) : ∀ N : Nat, (List.replicate N [d]).flatten = List.replicate N d
  | 0 => rfl
  | N + 1 => by rw [List.replicate_succ, List.replicate_succ, List.flatten_cons, flat_one d N]; rfl

section
variable {B : Bs} {L0 : Nat} {X : Nv} {q kk mm : Nat}
theorem i2d_ok (nv : NvOk B L0 X) {a c P : Addr} {body ibody : List Stmt} {scope iscope : Scope} {fd : FuncData} {params : Arguments} {ax nx an nm qual : Str} {ipos pa lp bp ap p1' p2' p3' p4' p5' ip : Pos} {ze cnt te e1 e2 e3 : Expr}
    (fc0 : FcAt B B.h0 a body scope [] fd) (hsc : scOk scope = true) (hnf : noFree scope.names = true) (hsa : storable scope.names ax = true) (hsn : storable scope.names nx = true) (hsan : storable scope.names an = true) (hbind : ∀ v w, bindArgs fd ⟨[v, w], []⟩ = pure [(ax, v), (nx, w)])
    (hcode : fd.code = .ref c) (C : CodeHd B.h0 c P) (hP : P ∈ B.tb) (hdn : B.dn P = (ipos, qual)) (hq : (fd.qualname ++ ".<locals>." ++ nm : Str) = qual) (hbm : B.h0.BuiltinsAt B.mg P)
    (hb : body = [.Assign [.Name an pa] (.BinOp (.List [ze] lp) .Mult cnt bp) ap, .FunctionDef nm params ibody [] none [] iscope none nm ipos, .If te [.Expr (.Call (.Name nm p1') [e1, e2, e3] [] p2') p3'] [] ip, .Return (some (.Name an p4')) p5'])
    (hd0 : params.defaults = []) (hk0 : params.kw_defaults = []) (ha : ∀ env, annTrees params none env = []) (hfree : freeCel scope.names iscope.names = true) (hx : look scope.names nm = some .cell)
    {x n N : Nat} (hxN : x < 2 ^ (n * N)) (hN : N ≤ 64) (hn : n ≤ 2 ^ 14)
    (hze : evE X q scope.names (bindPs [] [ax, nx] [.int x, .int n]) (.List [ze] lp) = some (.lst [.int 0]))
    (hcnt : evE X q scope.names (bindPs [] [ax, nx] [.int x, .int n]) cnt = some (.int N))
    (hte : ∀ l fa, evE X q scope.names (put (put (bindPs [] [ax, nx] [.int x, .int n]) an (.ref l)) nm (.ref fa)) te = some (.int x))
    (he : ∀ l fa (zs : List D), zs.length = N → each (evE X q scope.names (put (put (put (bindPs [] [ax, nx] [.int x, .int n]) an (.ref l)) nm (.ref fa)) an (.lst zs))) [e1, e2, e3] = some [.int x, .int 0, .int zs.length])
    (hra : ∀ l fa, evE X q scope.names (put (put (bindPs [] [ax, nx] [.int x, .int n]) an (.ref l)) nm (.ref fa)) (.Name an p4') = some (.ref l))
    (hne : an ≠ nm)
    {xx Lx Rx xn : Str} {t ce ie a1 a2 a3 a4 a5 a6 : Expr} {s2 s3 s4 s5 : Stmt} {q3 q4 q5 q6 pi p1 p2 p3 p4 p5 p6 : Pos}
    (hisc : scOk iscope = true) (hsx : storable iscope.names xx = true) (hsL : storable iscope.names Lx = true) (hsR : storable iscope.names Rx = true)
    (hibind : ∀ doc pm c' ctv cl u v w, bindArgs (fnX nm qual params ibody iscope cl .none .none doc pm none (.ref c') ctv) ⟨[u, v, w], []⟩ = pure [(xx, u), (Lx, v), (Rx, w)])
    (hib : ibody = [.If t [.Assign [.Subscript ce ie q3] (.Name xn q4) q5, .Return none q6] [] pi, s2, s3, s4, s5] ++ [.Expr (.Call (.Name nm p1) [a1, a2, a3] [] p2) p3, .Expr (.Call (.Name nm p4) [a4, a5, a6] [] p5) p6])
    (hk : kc (look iscope.names nm) = .cel) (h1 : strEq nm "__debug__" = false) (h2 : strEq nm "__classdict__" = false)
    (ht : ∀ l fa, ∀ x' L R : Int, testD (evE X q iscope.names) (bindPs (freeG (put (put (bindPs [] [ax, nx] [.int x, .int n]) an (.ref l)) nm (.ref fa)) iscope.names) [xx, Lx, Rx] [.int x', .int L, .int R]) [] t = some (L + 1 == R, bindPs (freeG (put (put (bindPs [] [ax, nx] [.int x, .int n]) an (.ref l)) nm (.ref fa)) iscope.names) [xx, Lx, Rx] [.int x', .int L, .int R], []))
    (hce : ∀ l fa, ∀ x' L R : Int, evE X q iscope.names (bindPs (freeG (put (put (bindPs [] [ax, nx] [.int x, .int n]) an (.ref l)) nm (.ref fa)) iscope.names) [xx, Lx, Rx] [.int x', .int L, .int R]) ce = some (.ref l))
    (hie : ∀ l fa, ∀ x' L R : Int, evE X q iscope.names (bindPs (freeG (put (put (bindPs [] [ax, nx] [.int x, .int n]) an (.ref l)) nm (.ref fa)) iscope.names) [xx, Lx, Rx] [.int x', .int L, .int R]) ie = some (.int L))
    (hve : ∀ l fa, ∀ x' L R : Int, evE X q iscope.names (bindPs (freeG (put (put (bindPs [] [ax, nx] [.int x, .int n]) an (.ref l)) nm (.ref fa)) iscope.names) [xx, Lx, Rx] [.int x', .int L, .int R]) (.Name xn q4) = some (.int x'))
    (hm : ∀ l fa, ∀ x' L R : Int, 0 ≤ L → L < R → R ≤ 64 → 0 ≤ ((L + R).fdiv (2 ^ 1) - L) * n → (Builtin.Int.intBits (x'.fdiv (2 ^ (((L + R).fdiv (2 ^ 1) - L) * n).toNat)) : Int) + ((L + R).fdiv (2 ^ 1) - L) * n ≤ 2 ^ 27 →
      ∃ Γ', evSs (evS noHk (evE X q) kk (mm + 2)) iscope.names [s2, s3, s4, s5] (bindPs (freeG (put (put (bindPs [] [ax, nx] [.int x, .int n]) an (.ref l)) nm (.ref fa)) iscope.names) [xx, Lx, Rx] [.int x', .int L, .int R]) [] = some (.nxt, Γ', []) ∧
      each (evE X q iscope.names Γ') [a1, a2, a3] = some [.int (Builtin.bitXor x' (x'.fdiv (2 ^ (((L + R).fdiv (2 ^ 1) - L) * n).toNat) * 2 ^ (((L + R).fdiv (2 ^ 1) - L) * n).toNat)), .int L, .int ((L + R).fdiv (2 ^ 1))] ∧
      each (evE X q iscope.names Γ') [a4, a5, a6] = some [.int (x'.fdiv (2 ^ (((L + R).fdiv (2 ^ 1) - L) * n).toNat)), .int ((L + R).fdiv (2 ^ 1)), .int R] ∧ look Γ' nm = some (.ref fa)) :
    OkCall B (L0 + 70) (.ref a) [.int x, .int n] (.lst ((digs n N x).map D.int)) := by
  intro A G s vs E Q rm st r hQ
  obtain ⟨v, w, rfl, rv, rw'⟩ := r.two
  have fc := fc0.st st
  refine enter_fc (m := L0 + 69) fc hsc (hbind v w) ?_ st (Clo.none hnf) (ds := [.int x, .int n]) (.cons rv (.cons rw' .nil)) rm fun env G1 s1 V Q1 E1 f1 kx hO hV hec heq hcells hq1 _ rm1 => ?_
  · intro p hp
    rcases List.mem_cons.mp hp with e | e
    · rw [e]; exact hsa
    · rw [List.mem_singleton.mp e]; exact hsn
  have okE := (evE_ok nv q).1
  have okT := (evE_ok nv q).2
  have rmL : Room L0 (A.deeper env) := rm1.less (by omega)
  have hst : storable scope.names nm = true := by unfold storable; rw [hx]
  have hqn : qualnameIn env nm nm = qual := by
    unfold qualnameIn
    have hkd : env.kindOf nm = some .cell := (f1.ow.cel nm hx).1
    rw [hkd, heq, ← hq]; rfl
  rw [hb]
  -- the digits' list
  refine WP.exec1 (assign_plain (swaps_not rfl) rfl rfl (WP.binop (okE scope.names _ _ _ hze _ _ _ env _ _ rmL f1.kn f1.se fun v2 G2 s2' k2 r2 => okE scope.names _ _ _ hcnt _ _ _ env _ _ rmL f1.kn (f1.se.ke k2) fun v3 G3 s3' k3 r3 => ?_)))
  have k23 := k2.trans k3
  have st3 := f1.st.ke k23
  have r2' := r2.ke (f1.st.ke k2) k3
  refine r3.intK fun t3 => r2'.lstK fun a2 i2 n2 h2O h2l h2d => ?_
  refine mulLst_new h2l h2d ⟨by omega, by omega, by simp; omega⟩ fun items hzs => ?_
  rw [Int.toNat_natCast] at hzs
  have hz0 : (List.replicate N [D.int 0]).flatten = (List.replicate N (0 : Int)).map D.int := by
    rw [List.map_replicate, flat_one]
  rw [hz0] at hzs
  have kp4 : Ke B G3 s3' G3 { s3' with heap := s3'.heap.push { cls := .type "list", data := .seq items } } := Ke.push st3 _ (Nat.le_refl _)
  have k4 := k23.trans kp4
  have hl4 : LstAt (s3'.heap.push { cls := .type "list", data := .seq items }) s3'.heap.objs.size items 0 := Heap.get?_push_size _ rfl
  have hlt4 : s3'.heap.objs.size < (s3'.heap.push { cls := .type "list", data := .seq items }).objs.size := by rw [Heap.size_push]; exact Nat.lt_succ_self _
  have hls1 : s1.heap.objs.size ≤ s3'.heap.objs.size := k23.sz
  have hls : s.heap.objs.size ≤ s3'.heap.objs.size := Nat.le_trans kx.sz hls1
  have hl0 : B.h0.get? s3'.heap.objs.size = none := f1.st.fresh0 hls1
  have hlB := not_tb hl0
  have hzs4 : RdL G3 (s3'.heap.push { cls := .type "list", data := .seq items }) items.toList ((List.replicate N (0 : Int)).map D.int) := RdL.ints hzs
  generalize s3'.heap.objs.size = l at *
  have kx4 : Kx B [] G1 s1 { G3 with O := l :: G3.O } { s3' with heap := s3'.heap.push { cls := .type "list", data := .seq items } } :=
    Kx.own f1.st k4 (fun a ha => (List.mem_cons.mp ha).elim (fun q => .inr (q ▸ ⟨hls1, hlt4⟩)) fun q => .inl (k4.o ▸ q)) fun a ha => List.mem_cons_of_mem _ (k4.o ▸ ha)
  have f4 : Fm B (l :: G.O) { G3 with O := l :: G3.O } { s3' with heap := s3'.heap.push { cls := .type "list", data := .seq items } } scope.names env V (bindPs [] [ax, nx] [.int x, .int n]) [] :=
    f1.openI kx4 (fun a => by rw [← k4.o]; exact List.mem_cons) hls1
  refine ⟨@wpAny_assign_Name _ _ _ _ _ _ _ _ _ (f4.stored hsan (.ref l) fun s5 t5 f5 => ⟨rfl, ?_⟩).w⟩
  -- the def
  refine WP.exec1 (def_ok f5 hd0 hk0 (ha env) (hec.trans hcode) C hP hdn hqn hbm hfree hst fun fa ifd s6 t6 f6 hfa fci hfd => ⟨rfl, ?_⟩)
  obtain ⟨doc, pm, c', ctv, hfd⟩ := hfd
  have hcl : ∀ y c, env.cells.lookup y = some c → c ≠ l := fun y c hy e => by
    rcases hcells y c hy with q | q
    · exact f6.vo c q (e ▸ List.mem_cons_self)
    · cases q
  have hfc : ∀ y, (y, NameKind.free) ∈ iscope.names → kc (env.kindOf y) = .cel := fun y hm => by rw [← f6.kn y]; exact freeCel_mem hfree hm
  have clo6 := f6.se.clo (names := iscope.names) hfc
  have hclo : ∀ y c, (closOf env.cells iscope.names []).lookup y = some c → c ≠ l := fun y c hy => by
    obtain ⟨g1, rfl⟩ := closOf_mem (mem_of_lookup hy)
    obtain ⟨c', g2, _⟩ := f6.se.cl y (hfc y g1)
    rw [g2]; exact hcl y c' g2
  have t56 := t5.trans t6
  have inO : ∀ {G : Gh}, l ∉ Wn G (l :: G1.O) → True := fun _ => trivial
  have hl6 : LstAt s6.heap l items 0 := t56.kx.kw.kp l _ (fun q => (List.mem_append.mp q).elim (fun q => (mem_Wn.mp q).2 List.mem_cons_self) hlB) hl4
  have hV6 : ∀ a ∈ V, s.heap.objs.size ≤ a := hV
  -- from the call's start to here
  have kxs : Kx B [] G s { G3 with O := l :: G3.O } { s3' with heap := s3'.heap.push { cls := .type "list", data := .seq items } } := kx.trans kx4 fun _ h => nomatch h
  have hWn : ∀ a ∈ Wn { G3 with O := l :: G3.O } (l :: G.O), a ∈ ([] : List Addr) ∨ s.heap.objs.size ≤ a := fun a ha => by
    obtain ⟨g1, g2⟩ := mem_Wn.mp ha
    rcases List.mem_cons.mp g1 with e | g1
    · exact absurd (e ▸ List.mem_cons_self) g2
    · rw [k4.o] at g1
      rcases (hO a).mp g1 with q | q
      · exact .inr (hV a q)
      · exact absurd (List.mem_cons_of_mem _ q) g2
  have kx6 := kxs.trans t56.kx hWn
  -- the return
  have fin : ∀ (G7 : Gh) (s7 : Shared) (items7 : Array Value) (nn7 : Nat), Kx B [] G s G7 s7 → Fm B (l :: G.O) G7 s7 scope.names env V (put (put (bindPs [] [ax, nx] [.int x, .int n]) an (.ref l)) nm (.ref fa)) [] → LstAt s7.heap l items7 nn7 → RdL G7 s7.heap items7.toList ((digs n N x).map D.int) →
      WP B (A.deeper env) (execs [.Return (some (.Name an p4')) p5'] env) Q1 E1 s7 := fun G7 s7 items7 nn7 kx7 f7 hl7 hd7 => by
    refine WP.ret1 (okE scope.names _ _ _ (hra l fa) _ _ _ env _ _ rmL f7.kn f7.se fun v8 G8 s8 k8 r8 => ?_)
    obtain rfl := r8.refI
    refine hq1 _ _ (hQ _ _ _ (kx7.ke k8 f7.st).kw (.lst (n := nn7) (fun q => Nat.not_lt.mpr hls (st.lt _ q)) (lst_kw hl7 k8 (fun h => nomatch h) hlB) (RdL.ints hd7)))
  -- the test
  refine WP.exec1 ⟨@wpAny_If _ _ _ _ _ _ _ _ _ _ (okT scope.names _ te _ ((x : Int) != 0) (hte l fa) (by rfl) _ _ _ env _ _ rmL f6.kn f6.se fun G7 s7 k7 => ?_).w⟩
  have f7 := f6.ke k7
  have hl7 : LstAt s7.heap l items 0 := lst_kw hl6 k7 (fun h => nomatch h) hlB
  by_cases hx0 : x = 0
  · rw [if_neg (by simp [hx0])]
    refine @wpAny_execs_nil _ _ _ _ _ _ ⟨rfl, fin G7 s7 items 0 (kx6.ke k7 f6.st) f7 hl7 ?_⟩
    rw [hx0, digs_zero]
    exact RdL.ints hzs4
  · have hN0 : 0 < N := by
      rcases Nat.eq_zero_or_pos N with e | e
      · rw [e] at hxN; simp at hxN; exact absurd hxN hx0
      · exact e
    rw [if_pos (by simp [hx0])]
    have hi : interactive env = false := by unfold interactive; rw [f7.se.kind]; rfl
    have hla : look (put (put (bindPs [] [ax, nx] [.int x, .int n]) an (.ref l)) nm (.ref fa)) an = some (.ref l) := by rw [look_put, if_neg hne, look_put, if_pos rfl]
    have sel := f7.se.lend hl7 (RdL.ints hzs4) hla hlB
    have hzl : ((List.replicate N (0 : Int)).map D.int).length = N := by simp
    refine (WP.exec1 (WP.exprNone hi rfl (fun v hv => by rw [hv]; rfl) (callCel_ok okE rmL f7.kn sel (by rw [hx]; rfl) (by rw [look_put, if_neg (Ne.symm hne), look_put, if_pos rfl]) h1 h2 (he l fa _ hzl) fun vs8 G8 s8 k8 r8 => ?_))).w
    have k8' := Kw.unlend k8
    have fc8 : FcAt B s8.heap fa ibody iscope (closOf env.cells iscope.names []) ifd := (fci.ke k7).ke k8'
    have f8 := f7.ke k8'
    have hl8 : LstAt s8.heap l items 0 := lst_kw hl7 k8' (fun h => nomatch h) hlB
    have hlO8 := f8.oo l List.mem_cons_self
    rw [hzl] at r8
    have r8' : RdL { G8 with O := G7.O } s8.heap vs8 [.int (x : Int), .int ((0 : Nat) : Int), .int (N : Int)] := RdL.ints (ys := [(x : Int), 0, (N : Int)]) r8
    refine ⟨fc8.isFn, i2d_inner (kk := kk) (mm := mm) nv hisc hsx hsL hsR (fun u v w => by rw [hfd]; exact hibind doc pm c' ctv _ u v w) hib hN hn hk h1 h2 hl0 (ht l fa) (hce l fa) (hie l fa) (hve l fa) (hm l fa) N 0 N x hN0 (Nat.le_refl _) (by omega) (by simpa using hxN) _ _ s8 vs8 (List.replicate N 0) items 0 _ _ (rm1.less (by omega)) f8.st fc8 ((clo6.ke k7 f6.st).ke k8' f7.st) r8' hlO8 hl8 (RdL.ints hzs4) (by simp) hclo fun G9 s9 items9 nn9 k9 hl9 hd9 => ⟨rfl, rfl, ?_⟩⟩
    refine ⟨@wpAny_execs_nil _ _ _ _ _ _ ⟨rfl, ?_⟩⟩
    have f9 := f8.kwO k9 List.mem_cons_self hl0 hcl
    have kx9 := ((kx6.ke k7 f6.st).ke k8' f7.st).trans (Kx.of_kw f8.st k9) fun a ha => .inr (by rw [List.mem_singleton.mp ha]; exact hls)
    refine fin G9 s9 items9 nn9 kx9 f9 hl9 ?_
    rw [rep_all (by rw [Nat.sub_zero, digs_len]; simp), Nat.sub_zero] at hd9
    exact hd9
end
end Mine

end
section
open PySem PySem.W PyProof.Rows
set_option Elab.async false
namespace Mine

noncomputable def revC (sc : Kd) (x m : Str) (apos cpos : Pos) : Bool := strEq m "reverse" && (!strEq x "__debug__" && (!strEq x "__classdict__" && ((apos.endLine == cpos.line) && storable sc x)))
noncomputable def reverseD (sc : Kd) (Γ : Gm) (Ω : Om) (x m : Str) (apos cpos : Pos) : Option Rs := tst (revC sc x m apos cpos) ((look Ω x).bind fun o => (lstO o).bind fun ds => tst (Nat.ble ds.length 1000) (some (.nxt, Γ, putA Ω x (.lst ds.reverse))))
noncomputable def revB (sc : Kd) (x : Str) (e : Expr) : Bool := strEq x "reversed" && (!strEq x "__debug__" && (!isStar e && decide (kc (look sc x) = .glo)))
noncomputable def revFor (X : Nv) (q : Nat) (rec : Sv) (sc : Kd) (Γ : Gm) (Ω : Om) (t : Expr) (x : Str) (e : Expr) (b : List Stmt) : Option Rs := tst (revB sc x e) ((evE X q sc Γ e).bind fun d => (lstOf1 d).bind fun xs => forD sc t (evSs rec sc b) xs.reverse Γ Ω)
noncomputable def forRev (X : Nv) (q : Nat) (rec : Sv) (sc : Kd) (Γ : Gm) (Ω : Om) (t i : Expr) (b : List Stmt) : Option Rs := (calO i).bind fun k => (nameOf k.1).bind fun x => (solo k.2.1).bind fun e => tst k.2.2.1.isEmpty (revFor X q rec sc Γ Ω t x e b)
noncomputable def exprRev (sc : Kd) (Γ : Gm) (Ω : Om) (e : Expr) : Option Rs := (calO e).bind fun k => (attO k.1).bind fun a => (nameOf a.1).bind fun x => tst (k.2.1.isEmpty && k.2.2.1.isEmpty) (reverseD sc Γ Ω x a.2.1 a.2.2 k.2.2.2)
noncomputable def hkRev (X : Nv) (q k m : Nat) : Hk := ⟨fun sc Γ Ω st => match st with
  | .For t i b o _ => tst o.isEmpty (forRev X q (evS noHk (evE X q) k m) sc Γ Ω t i b)
  | .Expr e _ => exprRev sc Γ Ω e
  | _ => none⟩

section
variable {B : Bs} {A : Around} {O0 : List Addr} {G : Gh} {s : Shared} {sc : Kd} {env : Env} {V : List Addr} {Γ Γ' : Gm} {Ω Ω' : Om} {E : Value → Shared → Prop} {L : Nat} {X : Nv} {rec : Sv} {ev : Ev}

theorem rev_iter (okE : OkE B L ev) (rm : Room L A) (f : Fm B O0 G s sc env V Γ Ω) {x : Str} {px cp : Pos} {e : Expr} {xs : List D} (hk : kc (look sc x) = .glo) (hdb : strEq x "__debug__" = false) (hmg : B.mg x = none) (hmb : B.mb x = some (.type "reversed")) (hstar : isStar e = false)
    (h1 : ev sc Γ e = some (.lst xs)) (Qi : Value → Shared → Prop) (h : ∀ I G1 s1 s2, Tr B O0 G s G1 s1 → Fm B O0 G1 s1 sc env V Γ Ω → s1.heap.objs.size ≤ I → I < s2.heap.objs.size → Ke B G1 s1 G1 s2 → Src B A I { G1 with O := I :: G1.O } s2 xs.reverse → Qi (.ref I) s2) :
    WP B A (eval (.Call (.Name x px) [e] [] cp) env) (fun v s1 => WP B A (pyIter v) Qi E s1) E s := by
  show WP B A (do callWith cp (← eval (.Name x px) env) [] (backTo cp (starEach [e] env)) []) _ E s
  refine WP.bind (callee_ok f.kn f.se hk hdb (.inr ⟨hmg, hmb⟩) ?_)
  have hea : each (ev sc Γ) [e] = some [.lst xs] := by simp only [each, hstar, h1]
  refine callWith_ok (.type _) (star_any hea) (each_ok okE rm f.kn hea f.se fun vs G1 s1 k1 r1 => ⟨⟨G1, f.st.ke k1⟩, ?_⟩)
  obtain ⟨v, rfl, rv⟩ := r1.one
  refine rv.lstK fun a items n ha hl hd => ?_
  have f1 := f.ke k1
  have st1 := f1.st
  have hne : a ≠ s1.heap.objs.size := Nat.ne_of_lt (Heap.lt_size hl)
  refine ⟨@call_reversed_list _ _ _ _ _ _ _ _ hl.is ?_⟩
  have hlt : s1.heap.objs.size < (s1.heap.push (revObj a ((items.size : Int) - 1))).objs.size := by rw [Heap.size_push]; exact Nat.lt_succ_self _
  have ke : Ke B G1 s1 G1 { s1 with heap := s1.heap.push (revObj a ((items.size : Int) - 1)) } := Ke.push st1 _ (Nat.le_refl _)
  have hrev : ({ s1 with heap := s1.heap.push (revObj a ((items.size : Int) - 1)) } : Shared).heap.IsRevIter s1.heap.objs.size a ((items.size : Int) - 1) := ⟨_, Heap.get?_push_size _ rfl, rfl, rfl⟩
  refine ⟨@wpAny_pyIter_revIter _ _ _ _ _ _ _ _ _ hrev ?_⟩
  refine h _ G1 s1 _ (Tr.ke f.st k1) f1 (Nat.le_refl _) hlt ke ⟨[s1.heap.objs.size, a], items.size, 0, _, _, Walks.listRev rm.hd _ a hne items, ⟨Nat.zero_le _, by simpa using hrev, LstAt.is (Heap.get?_push_of_some _ hl)⟩, ?_, ?_, ?_, ?_⟩
  · rw [hd.size, List.length_reverse, Nat.zero_add]
  · intro b hb
    rcases List.mem_cons.mp hb with q | q
    · exact .inl q
    · rw [List.mem_singleton.mp q]
      exact .inr ⟨fun m => (List.mem_cons.mp m).elim hne ha, Nat.lt_trans (Heap.lt_size hl) hlt⟩
  · intro j v d hv hdj
    have hj : j < xs.length := by have := (List.getElem?_eq_some_iff.mp hdj).1; rwa [List.length_reverse] at this
    rw [List.getElem?_reverse hj] at hdj
    obtain ⟨v', hv', rv⟩ := hd.get hdj
    rw [Nat.zero_add, hd.size] at hv
    have : v' = v := by rw [Array.getElem?_toList] at hv'; exact Option.some.inj (hv'.symm.trans hv)
    subst this
    exact rv.up (G' := { G1 with O := s1.heap.objs.size :: G1.O }) ⟨Kp.push _ _ _, fun b hb => (List.mem_cons.mp hb).elim (fun q => .inr (q ▸ get_size_none _)) .inl, Nat.le_refl _, fun _ _ => rfl⟩
  · rintro j h ⟨_, ⟨o, ho, hc, _⟩, _⟩
    exact ⟨o, _, ho, hc, by decide, by decide⟩

theorem reverseD_inv {P : Prop} {x m : Str} {apos cpos : Pos} {r : Rs} (h : reverseD sc Γ Ω x m apos cpos = some r)
    (k : m = "reverse" → strEq x "__debug__" = false → (apos.endLine == cpos.line) = true → storable sc x = true → ∀ ds, look Ω x = some (.lst ds) → ds.length ≤ 1000 → (.nxt, Γ, putA Ω x (.lst ds.reverse)) = r → P) : P := by
  obtain ⟨hc, h⟩ := tst_inv h
  have c1 := Bool.and_eq_true_iff.mp hc
  have c2 := Bool.and_eq_true_iff.mp c1.2
  have c3 := Bool.and_eq_true_iff.mp c2.2
  have c4 := Bool.and_eq_true_iff.mp c3.2
  obtain ⟨o, ho, h⟩ := bnd h
  obtain ⟨ds, hds, h⟩ := bnd h
  obtain ⟨hl, h⟩ := tst_inv h
  exact k (strEq_iff.mp c1.1) (bnot c2.1) c4.1 c4.2 ds (ho.trans (congrArg some (lstO_eq hds))) (Nat.le_of_ble_eq_true hl) (Option.some.inj h)
theorem reverse_ok {x m : Str} {px apos cpos pos : Pos} {r : Rs} {Q : Flow → Shared → Prop} (f : Fm B O0 G s sc env V Γ Ω)
    (h : reverseD sc Γ Ω x m apos cpos = some r) (hQ : PostS B O0 G s sc env V r Q) : WP B A (exec (.Expr (.Call (.Attribute (.Name x px) m apos) [] [] cpos) pos) env) Q E s := by
  refine reverseD_inv h fun hm hdb hline hx ds hds hlen hr => ?_
  subst hm
  subst hr
  have hi := interactive_no f
  rw [exec_Expr env _ _ hi rfl]
  refine WP.bind (WP.standAt (WP.bind ?_))
  obtain ⟨a, as, own, ⟨Γp, sep, hp, _⟩, _, turn⟩ := f.turn hds
  obtain ⟨od, turn1⟩ := turn G s (.refl f.st)
  obtain ⟨items, k, rfl, hl, rl⟩ := od.lstI
  rw [arm_eval_Call]
  refine WP.bind (load_own f sep hp hx hdb ?_)
  refine WP.bind (WP.standAt ?_)
  have hform : methodCallForm (([] : List Expr).length + ([] : List Keyword).length) (backTo cpos (starEach [] env)) (backToKw cpos (keywordEach [] env)) = true := rfl
  unfold methodCall calleeOf
  rw [hform, if_pos rfl]
  refine WP.bind (WP.holding ⟨@getMethod_builtin _ _ _ _ _ _ _ _ _ _ (LstAt.is hl).typeIs F.plainAttrs_list F.slot_list_reverse (by rfl) (fun b hb => Value.ref.inj hb ▸ ⟨_, hl, rfl⟩) ?_⟩)
  rw [mpos_ok hline]
  refine WP.bind (WP.pure ?_)
  refine callWith_ok (.builtin _) rfl (WP.pure (a := []) ⟨⟨G, f.st⟩, ?_⟩)
  have hasz : items.size ≤ sizeLine := by rw [rl.size, sizeLine_eq]; exact Nat.le_trans hlen (by decide)
  have hO1 : a ∈ G.O := (own a List.mem_cons_self).1
  have ht : a ∉ B.tb := fun q => (own a List.mem_cons_self).2.1 (f.tb a q)
  have hs' := Heap.SameBut.update s.heap a (Obj.mapSeq fun x => x.reverse)
  have kw : Kw B [a] G s G { s with heap := s.heap.update a (Obj.mapSeq fun x => x.reverse) } := Kw.same1 f.st (List.mem_singleton.mpr rfl) ht hs' (Nat.le_refl _) hl.nc
  have up := kw.up f.st (fun b hb => by rw [List.mem_singleton.mp hb]; exact hO1)
  refine ⟨call_meets F.slot_list_reverse (LstAt.is hl).typeIs F.entry_list_reverse (F.args_list_reverse_1 _) (AutoSeq1.list_reverse_list_0 a items k hasz) ⟨hl, ?_⟩⟩
  obtain ⟨t2, f2⟩ := turn1 _ (.lst ds.reverse) kw (.lst (PySem.IsL.update hl _) (by rw [Array.toList_reverse]; exact (rl.up up).reverse))
  exact WP.pure (hQ .next G _ t2 f2 trivial)

theorem rev_pos {e : Expr} {x : Str} (h : nameOf e = some x) : e = .Name x e.pos := by
  obtain ⟨p, rfl⟩ := nameOf_some h
  rfl
theorem hkRev_ok (nv : NvOk B L X) (hmg : B.mg "reversed" = none) (hmb : B.mb "reversed" = some (.type "reversed")) (q k m : Nat) : OkS B L (hkRev X q k m).S := by
  intro sc Γ Ω st r h A O0 G s env V E Q rm f hQ
  cases st <;> first | exact nsd h | skip
  case Expr e pos =>
    obtain ⟨k, h1, h2⟩ := bnd h
    obtain ⟨a, h3, h4⟩ := bnd h2
    obtain ⟨x, h5, h6⟩ := bnd h4
    obtain ⟨h7, h8⟩ := tst_inv h6
    have c := Bool.and_eq_true_iff.mp h7
    rw [calO_eq h1, attO_eq h3, rev_pos h5, List.isEmpty_iff.mp c.1, List.isEmpty_iff.mp c.2]
    exact reverse_ok f h8 hQ
  case For t i b o pos =>
    obtain ⟨ho, h0⟩ := tst_inv h
    obtain ⟨c, h1, h2⟩ := bnd h0
    obtain ⟨x, h5, h4⟩ := bnd h2
    obtain ⟨e, h3, h6⟩ := bnd h4
    obtain ⟨h7, h8⟩ := tst_inv h6
    obtain ⟨h9, h10⟩ := tst_inv h8
    have c1 := Bool.and_eq_true_iff.mp h9
    have c2 := Bool.and_eq_true_iff.mp c1.2
    have c3 := Bool.and_eq_true_iff.mp c2.2
    obtain ⟨d, hd, h11⟩ := bnd h10
    obtain ⟨xs, hxs, h12⟩ := bnd h11
    rw [lstOf1_eq hxs] at hd
    have ex := strEq_iff.mp c1.1
    rw [calO_eq h1, rev_pos h5, solo_eq h3, List.isEmpty_iff.mp h7, List.isEmpty_iff.mp ho, ex]
    rw [ex] at c2 c3
    exact for_core (evS_ok nv noHk_ok q k m) rm rfl (rev_iter (evE_ok nv q).1 rm f (of_decide_eq_true c3.2) (bnot c2.1) hmg hmb (bnot c3.1) hd) h12 hQ
end
end Mine

end
section
open PySem PySem.W PyProof.Rows
set_option Elab.async false
namespace Mine
open PySem.Sre PySem.Builtin.Re

noncomputable def codeN : Array Nat := #[14, 10, 4, 1, 1, 22, 0, 31, 16, 127, 0, 13, 7, 22, 0, 31, 16, 127, 0, 1]
noncomputable def codeV : Array Nat := #[14, 14, 4, 1, 1, 9, 4294966783, 0, 0, 2147483648, 0, 0, 0, 0, 0, 13, 11, 9, 4294966783, 0, 0, 2147483648, 0, 0, 0, 0, 0, 1]
noncomputable def NoSet (code : Array Nat) (c : Nat) : Prop := ∀ seen, ∃ seen', inSet code c code.size 5 true seen = .ok (false, seen')

theorem noSet_N {c : Nat} (h1 : 32 ≤ c) (h2 : c < 127) : NoSet codeN c := by
  intro seen
  have e1 : (decide (0 ≤ c) && decide (c ≤ 31)) = false := by simp; omega
  have e2 : (c == 127) = false := by simp; omega
  refine ⟨((seen.add 22).add 16).add 0, ?_⟩
  have s1 : inSet codeN c codeN.size 5 true seen = (if (decide (0 ≤ c) && decide (c ≤ 31)) = true then .ok (true, seen.add 22) else inSet codeN c 19 8 true (seen.add 22)) := rfl
  have s2 : inSet codeN c 19 8 true (seen.add 22) = (if (c == 127) = true then .ok (true, (seen.add 22).add 16) else inSet codeN c 18 10 true ((seen.add 22).add 16)) := rfl
  rw [s1, e1, if_neg (by decide), s2, e2, if_neg (by decide)]
  rfl
theorem bits96 : ∀ c, c < 127 → 32 ≤ c → (codeV.getD (5 + (1 + c / 32)) 0).testBit (c % 32) = false := by decide +kernel
theorem noSet_V {c : Nat} (h1 : 32 ≤ c) (h2 : c < 127) : NoSet codeV c := by
  intro seen
  have e1 := bits96 c h2 h1
  refine ⟨(seen.add 9).add 0, ?_⟩
  have s1 : inSet codeV c codeV.size 5 true seen = (if (decide (c < 256) && (codeV.getD (5 + (1 + c / 32)) 0).testBit (c % 32)) = true then .ok (true, seen.add 9) else inSet codeV c 27 14 true (seen.add 9)) := rfl
  rw [s1, e1, Bool.and_false, if_neg (by decide)]
  rfl

theorem admitted_none {m : M} : ∀ (fuel s : Nat) (seen : Sre.Seen), (∀ i, s ≤ i → i < m.lim → NoSet m.code (m.text.getD i 0)) → ∃ seen', M.admitted m fuel s seen = .ok (none, seen')
  | 0, _, seen, _ => ⟨seen, rfl⟩
  | fuel + 1, s, seen, h => by
    unfold M.admitted
    by_cases hs : s ≥ m.lim
    · rw [if_pos hs]; exact ⟨seen, rfl⟩
    · rw [if_neg hs]
      obtain ⟨seen', e⟩ := h s (Nat.le_refl _) (by omega) seen
      rw [e]
      exact admitted_none fuel (s + 1) seen' fun i hi => h i (by omega)

theorem runFor_no {m : M} (h1 : m.answer = some false) (h2 : m.frames = []) (h3 : m.outcome = none) : ∃ m', m.runFor 4 = m' ∧ m'.outcome = some .failed := by
  have e : m.step = { m with outcome := some .failed } := by
    unfold M.step
    rw [if_neg (by rw [h3]; decide)]
    split
    · rename_i yes a b
      rw [h1] at a; cases a
      rfl
    · rename_i a b; rw [h2] at b; cases b
    · rename_i a; rw [h1] at a; cases a
  refine ⟨_, rfl, ?_⟩
  show (if m.outcome.isSome then m else M.runFor 3 m.step).outcome = _
  rw [h3, if_neg (by decide), e]
  rfl

noncomputable def Safe (x : Str) : Bool := Nat.ble x.cps.size 1000 && x.cps.toList.all fun c => Nat.ble 32 c && Nat.ble c 126
theorem search_no {code : Array Nat} {x : Str} (hc : code = codeN ∨ code = codeV) (hx : Safe x = true) : ∃ m, forSearch code x.cps 0 0 x.cps.size false = m ∧ m.answer = some false ∧ m.frames = [] ∧ m.outcome = none := by
  have hset : ∀ c, 32 ≤ c → c < 127 → NoSet code c := fun c a b => by
    rcases hc with rfl | rfl
    · exact noSet_N a b
    · exact noSet_V a b
  have hhd : (header code).1 = 1 ∧ ((header code).2 != 0 && code.getD 2 0 &&& 5 != 0) = true := by
    rcases hc with rfl | rfl <;> exact ⟨rfl, rfl⟩
  have hfs : ∀ m : M, m.code = code → m.hasFirstSet = true := fun m e => by
    unfold M.hasFirstSet; rw [e]; rcases hc with rfl | rfl <;> rfl
  have hsafe : ∀ i, i < x.cps.size → NoSet code (x.cps.getD i 0) := fun i hi => by
    have hm : x.cps.getD i 0 ∈ x.cps.toList := by
      rw [Array.getD_eq_getD_getElem?, Array.getElem?_eq_getElem hi]
      exact Array.getElem_mem_toList hi
    have := List.all_eq_true.mp (Bool.and_eq_true_iff.mp hx).2 _ hm
    rw [Bool.and_eq_true, Nat.ble_eq, Nat.ble_eq] at this
    exact hset _ this.1 (by omega)
  refine ⟨_, rfl, ?_⟩
  unfold forSearch
  simp only [hhd.1]
  by_cases hlt : (0 > x.cps.size || x.cps.size - 0 < 1) = true
  · rw [if_pos (by simpa using hlt)]
    exact ⟨rfl, rfl, rfl⟩
  · rw [if_neg (by simpa using hlt)]
    have key : ∀ m0 : M, m0.code = code → m0.text = x.cps → m0.lim = x.cps.size → m0.answer = none → m0.frames = [] → m0.outcome = none →
        (m0.attemptFrom 0 true).answer = some false ∧ (m0.attemptFrom 0 true).frames = [] ∧ (m0.attemptFrom 0 true).outcome = none := fun m0 a1 a2 a3 a4 a5 a6 => by
      obtain ⟨seen', e⟩ := admitted_none (m := m0) (m0.lim + 1 - 0) 0 m0.seen fun i _ hi => by rw [a1, a2]; exact hsafe i (by rw [← a3]; exact hi)
      unfold M.attemptFrom
      rw [hfs m0 a1, e]
      exact ⟨rfl, a5, a6⟩
    exact key _ rfl rfl rfl rfl rfl rfl

namespace SF
theorem owner_pat : Manifest.owners.lookup "re.Pattern" = some Manifest.sig_re_Pattern := by kernel_rfl
theorem plainAttrs_pat : PlainAttrs "re.Pattern" :=
  ⟨⟨"object.__getattribute__", by rw [typeLookup_type, builtinLookup_eq_fast]; kernel_rfl, by decide +kernel⟩, by rw [typeLookup_type, builtinLookup_eq_fast]; kernel_rfl⟩
theorem slot_search : Slot "re.Pattern" "search" "re.Pattern.search" :=
  .of (owner := "re.Pattern") (n := "search") (by rw [typeLookup_type, builtinLookup_eq_fast]; kernel_rfl) (by decide +kernel) (by decide +kernel) (by decide +kernel)
    (by first | exact .inl (by decide +kernel) | exact .inr (by decide +kernel)) (by rw [isSubtype_type]; kernel_rfl)
theorem type_search : typeOf (.builtin "re.Pattern.search") = pure (.type "method_descriptor") := by show builtinType _ = _; rw [builtinType_eq_fast]; kernel_rfl
theorem entry_search : entryFor table "re.Pattern.search" = some Builtin.«re.Pattern.search» := entryFor_of_tree (by kernel_rfl)
theorem args_search (a b : Value) : argsOk "re.Pattern.search" ⟨[a, b], []⟩ := by unfold argsOk; kernel_rfl
end SF

section
variable {prog : Program} {w : World} {A : Around} {E : Value → Shared → Prop} {s : Shared} {Q : Value → Shared → Prop}
structure PatAt (h : Heap) (p : Addr) (code : Array Nat) : Prop where
  ob : ∃ o vs ct, h.get? p = some o ∧ o.cls = .type "re.Pattern" ∧ o.dict = none ∧ o.data = .fields vs ∧ vs.getD 6 .none = rawInt 0 ∧ vs.getD 5 .none = .ref ct ∧ vs.getD 2 .none = rawInt 0 ∧
    ∃ oc its n, h.get? ct = some oc ∧ oc.data = .seq its n ∧ (its.map reRawOf).map (·.toNat) = code

theorem rules_go (f : Nat → PUnit → Sem (ForInStep PUnit)) (seen : Sre.Seen) (hf : ∀ i u, f i u = if seen.has i then (do rule (Sre.names.getD i ""); pure (.yield ⟨⟩)) else pure (.yield ⟨⟩)) {M : Model} {Q : PUnit → Shared → Prop} : ∀ l : List Nat, Q ⟨⟩ s → wpAny M A (forIn l ⟨⟩ f) Q E s
  | [], h => by rw [List.forIn_nil]; exact @wpAny_pure _ _ _ _ _ _ _ h
  | i :: l, h => by
    rw [List.forIn_cons, hf]
    split
    · exact @wpAny_bind _ _ _ _ _ _ _ _ _ (@wpAny_bind _ _ _ _ _ _ _ _ _ (@wpAny_rule _ _ _ _ _ _ (@wpAny_pure _ _ _ _ _ _ _ (rules_go f seen hf l h))))
    · exact @wpAny_bind _ _ _ _ _ _ _ _ _ (@wpAny_pure _ _ _ _ _ _ _ (rules_go f seen hf l h))

theorem search_ok {p : Addr} {code : Array Nat} {x : Str} {t : Tok} (hp : PatAt s.heap p code) (hc : code = codeN ∨ code = codeV) (hx : Safe x = true) (h : Q .none s) :
    wpAny (model prog w) A (call (.builtin "re.Pattern.search") [.ref p, .str x t]) Q E s := by
  obtain ⟨o, vs, ct, ho, hcls, _, hd, h6, h5, h2, oc, its, n, hoc, hod, hcode⟩ := hp.ob
  refine @wpAny_call_entry _ _ _ _ _ _ _ _ _ _ _ _ SF.slot_search ⟨o, ho, hcls⟩ SF.entry_search ?_ (SF.args_search _ _)
  unfold Builtin.«re.Pattern.search» reTarget
  refine @wpAny_bind _ _ _ _ _ _ _ _ _ ?_
  have hn : reNamed "re.Pattern.search" "search" ["string", "pos", "endpos"] 1 [.str x t] [] = pure [some (.str x t), none, none] := by kernel_rfl
  dsimp only
  refine @wpAny_bind _ _ _ _ _ _ _ _ _ (@wpAny_of_eq _ _ _ _ _ _ _ _ hn ?_)
  dsimp only
  refine @wpAny_bind _ _ _ _ _ _ _ _ _ (@wpAny_pure _ _ _ _ _ _ _ (@wpAny_bind _ _ _ _ _ _ _ _ _ (@wpAny_pure _ _ _ _ _ _ _ ?_)))
  refine @wpAny_bind _ _ _ _ _ _ _ _ _ (@wpAny_fieldsOf _ _ _ _ _ _ _ _ ho hd ?_)
  have ht : reTextOf (.str x t) = pure (x.cps, 0) := rfl
  refine @wpAny_bind _ _ _ _ _ _ _ _ _ (@wpAny_of_eq _ _ _ _ _ _ _ _ ht ?_)
  dsimp only
  rw [h6, h5, h2]
  have w0 : (reRawNat (rawInt 0)) = 0 := rfl
  rw [w0]
  refine @wpAny_bind _ _ _ _ _ _ _ _ _ (wpAny_of_eq (a := ()) rfl ?_)
  refine @wpAny_bind _ _ _ _ _ _ _ _ _ (@wpAny_bind _ _ _ _ _ _ _ _ _ (@wpAny_seqItems _ _ _ _ _ _ _ _ _ hoc hod (@wpAny_pure _ _ _ _ _ _ _ (@wpAny_pure _ _ _ _ _ _ _ ?_))))
  have hsz : x.cps.size ≤ 1000 := by have := (Bool.and_eq_true_iff.mp hx).1; rwa [Nat.ble_eq] at this
  have e0 : (min (Int.toNat 0) x.cps.size) = 0 := by simp
  have hlim : (min ((2 : Int) ^ 63 - 1).toNat x.cps.size) = x.cps.size := by omega
  dsimp only
  rw [e0, hlim]
  unfold reAnswer reRunToEnd
  dsimp only
  rw [Option.getD_some, hcode]
  obtain ⟨m0, hm0, a1, a2, a3⟩ := search_no hc hx
  rw [hm0]
  obtain ⟨m1, hm1, ho1⟩ := runFor_no a1 a2 a3
  have hdrive : reDrive (2 ^ 64) m0 = pure m1 := by
    show (let m := m0.runFor reTurnSteps; if m.outcome.isSome then pure m else (do rule "sre.turn"; reDrive (2 ^ 64 - 1) m)) = pure m1
    have e : m0.runFor reTurnSteps = m1 := hm1
    simp only [e, ho1, Option.isSome_some, if_true]
  rw [hdrive]
  refine @wpAny_bind _ _ _ _ _ _ _ _ _ (@wpAny_bind _ _ _ _ _ _ _ _ _ (@wpAny_pure _ _ _ _ _ _ _ ?_))
  refine @wpAny_bind _ _ _ _ _ _ _ _ _ (rules_go _ m1.seen (fun i u => by split <;> simp_all) _ ?_)
  rw [ho1]
  refine @wpAny_pure _ _ _ _ _ _ _ ?_
  exact @wpAny_pure _ _ _ _ _ _ _ ⟨_, rfl, h⟩
end
end Mine

end
section
open PySem PySem.W PyProof.Rows
set_option Elab.async false
namespace Mine

structure KB (B : Bs) (K : Frag) : Prop where
  in0 : K.In B.h0
  no : ∀ a o, K.lookup a = some o → a ∉ B.tb
theorem KB.st {B : Bs} {K : Frag} (k : KB B K) {G : Gh} {s : Shared} (st : St B G s) : K.In s.heap := fun a o e => st.kp a o (k.no a o e) (k.in0 a o e)

structure HdK (K : Frag) (C : Addr) : Prop where
  mks : makesIn K C = true
  hd : hasDictIn K C = true
  ga : findIn K (.ref C) "__getattribute__" = some (some (.builtin "object.__getattribute__"))
  gh : findIn K (.ref C) "__getattr__" = some none
  sa : findIn K (.ref C) "__setattr__" = some (some (.builtin "object.__setattr__"))
  po : plainOver K C = true
  tk : takerIn K C "_headers" = some none
  fa : findIn K (.ref C) "_headers" = some none

theorem lookIn_ns {o : Obj} {es : Array DictEntry} {ep : Nat} {m : Str → Option Value} (hd : o.data = .dict es ep) (sk : StrKeys es) (hf : ∀ name, nsFind es name = m name) (x : Str) : lookIn x o = some (m x) := by
  unfold lookIn
  rw [hd]
  dsimp only
  rw [← hf x]
  unfold nsFind findBy
  rw [← Array.find?_toList]
  cases e : es.toList.find? (fun d => d.key.isStr x) with
  | some d => rfl
  | none =>
    have : es.toList.any (·.refKey) = false := by
      rw [List.any_eq_false]
      intro d hdm
      obtain ⟨n, t, hk⟩ := sk d (Array.mem_toList_iff.mp hdm)
      simp [DictEntry.refKey, hk]
    rw [this]; rfl

section
variable {B : Bs} {A : Around} {G : Gh} {s : Shared} {K : Frag} {C : Addr} {E : Value → Shared → Prop}
theorem hdr_inst {v : Value} {xs : List D} (r : Rd G s.heap v (.hdr C xs)) : ∃ a dx l items n o, v = .ref a ∧ InstAt s.heap a { cls := .ref C, dict := some dx, data := .plain } C (some o) ∧ (∀ x, lookIn x o = some (if x = ("_headers" : Str) then some (.ref l) else none)) ∧ l ∉ G.O ∧ LstAt s.heap l items n ∧ RdL G s.heap items.toList xs := by
  refine r.hdrK fun a dx l items n ha hx hl ht hne hn hi hd => ?_
  obtain ⟨o, es, ep, e, hdt, sk, uk, hf⟩ := hn
  exact ⟨_, _, _, _, _, o, rfl, ⟨ht, rfl, rfl, e⟩, fun x => lookIn_ns hdt sk hf x, hl, hi, hd⟩

theorem hdr_attr (kb : KB B K) (hk : HdK K C) {v : Value} {xs : List D} {ex : Bool} {Q : Value → Shared → Prop} (st : St B G s) (r : Rd G s.heap v (.hdr C xs)) (hQ : Post B G s (.lst xs) Q) : WP B A (getAttr v "_headers" ex) Q E s := by
  obtain ⟨a, dx, l, items, n, o, rfl, I, hl, hlO, hi, hd⟩ := hdr_inst r
  exact ⟨@get_value _ _ _ _ _ _ _ _ _ _ _ _ _ _ (kb.st st) I hk.ga (findObj_own hk.hd hk.fa rfl (by rw [hl, if_pos rfl])) rfl (hQ.tok1 st (.lst hlO hi hd))⟩

theorem hdr_method (kb : KB B K) (hk : HdK K C) {name : Str} {f : Addr} (hf : findIn K (.ref C) name = some (some (.ref f))) (ht : typeIn K (.ref f) = some (.type "function")) (hne : name ≠ "_headers") {v : Value} {xs : List D} {pl : Sem Bool} {Q : Value × List Value → Shared → Prop}
    (st : St B G s) (r : Rd G s.heap v (.hdr C xs)) (h : Q (.ref f, [v]) s) : WP B A (getMethod v name pl) Q E s := by
  obtain ⟨a, dx, l, items, n, o, rfl, I, hl, hlO, hi, hd⟩ := hdr_inst r
  exact ⟨@method_fn _ _ _ _ _ _ _ _ _ _ _ _ _ _ (kb.st st) I hk.ga hk.gh hf ht (by unfold shadowIn; dsimp only; rw [hl, if_neg hne]; rfl) h⟩

theorem set_ok {x dx : Addr} {m : Str → Option Value} {v : Value} {Q : Unit → Shared → Prop} (X : K.In s.heap) (hk : HdK K C) (hx : s.heap.get? x = some { cls := .ref C, dict := some dx, data := .plain }) (hns : s.heap.Ns1 dx m) {ns : List Str} (hw : Within m ns) (hsz : ns.length ≤ 100)
    (h : ∀ h', h'.Ns1 dx (fun y => if y = ("_headers" : Str) then some v else m y) → Heap.SameBut dx s.heap h' → Q () { s with heap := h', toks := s.toks + 2 }) : WP B A (setAttr (.ref x) "_headers" v) Q E s := by
  obtain ⟨o, es, ep, e, hdt, sk, uk, hf⟩ := id hns
  have I : InstAt s.heap x { cls := .ref C, dict := some dx, data := .plain } C (some o) := ⟨hx, rfl, rfl, e⟩
  refine ⟨@set_plain _ _ _ _ _ _ _ _ _ _ _ _ _ X I hk.sa (osa_open (s := { s with toks := s.toks + 1 }) X I hk.po hk.tk fun b => ?_)⟩
  obtain ⟨cd, hc, hd'⟩ := any_some hk.hd
  refine @wpAny_bind _ _ _ _ _ _ _ _ _ (@wpAny_pure _ _ _ _ _ _ _ (@wpAny_bind _ _ _ _ _ _ _ _ _ (@wpAny_bind _ _ _ _ _ _ _ _ _ (@wpAny_loadPart _ _ _ _ _ _ _ _ hx (@wpAny_bind _ _ _ _ _ _ _ _ _ (looks_clsIn (h := s.heap) X hc _ _ _ _ (fun _ _ e => e) ?_))))))
  rw [hd']
  refine wpAny_pure (a := some dx) (@wpAny_bind _ _ _ _ _ _ _ _ _ (@wpAny_pure _ _ _ _ _ _ _ (@wpAny_bind _ _ _ _ _ _ _ _ _ ?_)))
  refine wpAny_nsSet1 (s := { s with toks := s.toks + 1 }) hns fun h' hn' hs => ?_
  obtain ⟨oD, esD, epD, hoD, hdD, hcD⟩ := hn'.count (Within.cons _ v hw)
  refine @wpAny_bind _ _ _ _ _ _ _ _ _ (@wpAny_lookBehind _ _ _ _ _ _ _ _ hoD (by rw [hdD]; exact pastItsLine_dict (Nat.le_trans hcD (by rw [List.length_cons, sizeLine_eq]; omega))) ?_)
  exact @wpAny_pure _ _ _ _ _ _ _ (h h' hn' hs)
end
end Mine

end
section
open PySem PySem.W PyProof.Rows
set_option Elab.async false
namespace Mine

theorem nlt {a b : Nat} (h : a < b) : a < b := h
theorem neq {a b : Nat} (h : a = b) : a = b := h

section
variable {B : Bs} {A : Around} {O0 : List Addr} {G : Gh} {s : Shared} {sc : Kd} {env : Env} {V : List Addr} {Γ : Gm} {E : Value → Shared → Prop}
theorem Fm.know {x : Str} {a : Addr} {d : D} (f : Fm B O0 G s sc env V Γ []) (hx : look Γ x = some (.ref a)) (r : Rd G s.heap (.ref a) d) : Fm B O0 G s sc env V (put Γ x d) [] :=
  ⟨f.vo, f.oo, f.tb, f.nw, f.ow, f.kn, f.cz, put Γ x d, fun _ => 0, fun _ => [], f.se.know hx r, fun _ _ h => h, fun _ _ h => (nomatch h), fun _ _ _ _ h => (nomatch h)⟩
theorem Fm.drop (f : Fm B O0 G s sc env V Γ []) : ∃ G', Tr B O0 G s G' s ∧ Fm B O0 G' s sc env V Γ [] ∧ (∀ a ∈ G'.O, a ∈ G.O ∧ (a ∈ O0 ∨ a ∈ V ∨ ∃ y, env.cells.lookup y = some a)) := by
  classical
  let P : Addr → Bool := fun a => decide (a ∈ O0 ∨ a ∈ V ∨ ∃ y, env.cells.lookup y = some a)
  have hsub : ∀ a ∈ G.O.filter P, a ∈ G.O := fun a ha => (List.mem_filter.mp ha).1
  have hO : ∀ a ∈ O0, a ∈ G.O.filter P := fun a ha => List.mem_filter.mpr ⟨f.oo a ha, by simp [P, ha]⟩
  have hV : ∀ a ∈ V, a ∈ G.O.filter P := fun a ha => List.mem_filter.mpr ⟨f.ow.sub a ha, by simp [P, ha]⟩
  have ht : ∀ a ∈ B.tb, a ∈ G.O.filter P := fun a ha => hO a (f.tb a ha)
  have up := Up.free (G := G) (h := s.heap) hsub
  have st' := f.st.free hsub ht
  refine ⟨{ G with O := G.O.filter P }, ⟨Kx.free (.refl f.st) hsub ht⟩, ⟨f.vo, hO, f.tb, fun a ha => f.nw a (hsub a ha), f.ow.gh hV, f.kn, f.cz, Γ, fun _ => 0, fun _ => [], f.se.gh st' up, fun _ _ h => h, fun _ _ h => (nomatch h), fun _ _ _ _ h => (nomatch h)⟩, fun a ha => ?_⟩
  obtain ⟨h1, h2⟩ := List.mem_filter.mp ha
  exact ⟨h1, by simpa [P] using h2⟩
end

theorem Room.under {m : Nat} {A : Around} {c : Code} (h : Room (m + 1) A) (h1 : c.weight = 1) (h2 : c.cUnits ≤ 8) : Room m (A.under c) := ⟨h.hd, by show A.depth + c.weight + m < 900; rw [h1]; exact room_d h.dep, room_u h2 h.un⟩

section
variable {B : Bs} {L : Nat} {X : Nv} {q kk mm : Nat} {K : Frag} {C : Addr}
theorem mk_weight (C : Addr) (rest : List Value) (kw : List (Str × Value)) : (Code.builtin "type.__call__" ⟨.ref C :: rest, kw⟩).weight = 1 ∧ (Code.builtin "type.__call__" ⟨.ref C :: rest, kw⟩).cUnits ≤ 8 := ⟨by kernel_rfl, by show (1 : Nat) ≤ 8; decide⟩

theorem hdr_new (nv : NvOk B L X) (kb : KB B K) (hk : HdK K C) {fI : Addr} {fd : FuncData} {body : List Stmt} {scope : Scope} {sn hn : Str} {t1 t4 : Stmt} {te : Expr} {tb : List Stmt} {tp p1 p2 p3 p4 : Pos} {xs : List D} {Γ1 : Addr → Addr → Gm}
    (fc0 : FcAt B B.h0 fI body scope [] fd) (hsc : scOk scope = true) (hnf : noFree scope.names = true) (hs1 : storable scope.names sn = true) (hs2 : storable scope.names hn = true) (hne : hn ≠ sn)
    (hbind : ∀ u v (s : Shared), K.In s.heap → BindsTo s fd ⟨[u, v], []⟩ [(sn, u), (hn, v)]) (hfi : findIn K (.ref C) "__init__" = some (some (.ref fI))) (hft : typeIn K (.ref fI) = some (.type "function"))
    (hb : body = [t1, .If te tb [] tp, .Assign [.Attribute (.Name sn p1) "_headers" p2] (.Name hn p3) p4, t4])
    (h1 : ∀ x l, evSs (evS noHk (evE X q) kk (mm + 2)) scope.names [t1] (bindPs [] [sn, hn] [.ref x, .ref l]) [] = some (.nxt, Γ1 x l, []))
    (hg1 : ∀ x l, look (Γ1 x l) sn = some (.ref x)) (hg2 : ∀ x l, look (Γ1 x l) hn = some (.ref l))
    (h2 : ∀ x l, evE X q scope.names (put (Γ1 x l) hn (.lst xs)) te = some (.bool false))
    (h3 : ∀ x l, evE X q scope.names (Γ1 x l) (.Name hn p3) = some (.ref l)) (h3' : ∀ x l, evE X q scope.names (Γ1 x l) (.Name sn p1) = some (.ref x))
    (h4 : ∀ x l, ∃ Γ4, evSs (evS noHk (evE X q) kk (mm + 2)) scope.names [t4] (put (put (Γ1 x l) hn (.lst xs)) sn (.hdr C xs)) [] = some (.nxt, Γ4, []))
    {A : Around} {G : Gh} {s : Shared} {l : Nat} {items : Array Value} {n : Nat} {Q : Value → Shared → Prop} {E : Value → Shared → Prop} (rm : Room (L + 2) A) (st : St B G s) (hlO : l ∉ G.O) (hl : LstAt s.heap l items n) (hd : RdL G s.heap items.toList xs)
    (hQ : ∀ (a dx : Nat) G' s', Ke B G s G' s' → s.heap.objs.size ≤ a → s.heap.objs.size ≤ dx → a < s'.heap.objs.size → dx < s'.heap.objs.size → s'.heap.get? a = some ({ cls := .ref C, dict := some dx, data := .plain } : Obj) → dx ≠ a →
      s'.heap.Ns1 dx (fun x => if x = ("_headers" : Str) then some (.ref l) else none) → LstAt s'.heap l items n → RdL G' s'.heap items.toList xs → Q (.ref a) s') : WP B A (call (.ref C) [.ref l]) Q E s := by
  obtain ⟨hh, gn, dr, tk, os⟩ := s
  refine ⟨@wpAny_call _ _ _ _ _ _ _ _ (make_core (rest := [.ref l]) (kw := []) (makes_of (kb.st st) hk.mks) (looks_findIn (kb.st st) hfi) (fun self => bind_fn (kb.st st) self hft) (.inl rfl) ?_)⟩
  have k1 : Ke B G ⟨hh, gn, dr, tk, os⟩ G ⟨(hh.push emptyDict).push (instObj C hh.objs.size), gn, dr, tk, os⟩ := Ke.of st (h' := (hh.push emptyDict).push (instObj C hh.objs.size)) (fun b o e => Heap.get?_push_of_some _ (Heap.get?_push_of_some _ e)) (Nat.le_refl _) (by show hh.objs.size ≤ ((hh.push emptyDict).push _).objs.size; rw [Heap.size_push, Heap.size_push]; omega)
  have hz2 : ((hh.push emptyDict).push (instObj C hh.objs.size)).objs.size = hh.objs.size + 2 := by rw [Heap.size_push, Heap.size_push]
  have hdx : ((hh.push emptyDict).push (instObj C hh.objs.size)).get? hh.objs.size = some emptyDict := Heap.get?_push_of_some _ (Heap.get?_push_size _ rfl)
  have hx : ((hh.push emptyDict).push (instObj C hh.objs.size)).get? (hh.objs.size + 1) = some (instObj C hh.objs.size) := by
    have := Heap.get?_push_size (hh.push emptyDict) (o := instObj C hh.objs.size) rfl
    rwa [Heap.size_push] at this
  have hlt : l < hh.objs.size := nlt (Heap.lt_size hl)
  have kxo : Kx B [] G ⟨hh, gn, dr, tk, os⟩ { G with O := hh.objs.size :: G.O } ⟨(hh.push emptyDict).push (instObj C hh.objs.size), gn, dr, tk, os⟩ :=
    Kx.own st k1 (fun a ha => (List.mem_cons.mp ha).elim (fun e => .inr ⟨Nat.le_of_eq e.symm, by rw [e]; show hh.objs.size < ((hh.push emptyDict).push _).objs.size; rw [hz2]; omega⟩) .inl) fun a ha => List.mem_cons_of_mem _ ha
  have st1 := kxo.st st (fun _ h => nomatch h)
  have up1 := kxo.up st (fun _ h => nomatch h)
  have hl1 : LstAt ((hh.push emptyDict).push (instObj C hh.objs.size)) l items n := Heap.get?_push_of_some _ (Heap.get?_push_of_some _ hl)
  generalize hdxe : hh.objs.size = dx at *
  generalize hH : (hh.push emptyDict).push (instObj C dx) = H at *
  have rmU : Room (L + 1) (A.under (.builtin "type.__call__" ⟨[.ref C, .ref l], []⟩)) := rm.under (mk_weight C _ _).1 (mk_weight C _ _).2
  have h0dx : B.h0.get? dx = none := st.fresh0 (Nat.le_of_eq hdxe)
  have htb : dx ∉ B.tb := not_tb h0dx
  refine enter_cp (m := L) (ds := [.ref (dx + 1), .ref l]) (fc0.st st1) hsc (fun A' E' Qb hq => hbind _ _ _ (kb.st st1) _ A' E' Qb hq) ?_ st1 (Clo.none hnf) (.cons (.ref _) (.cons (.ref _) .nil)) rmU fun env G2 s2 V Q1 E1 f2 kx2 hO hV _ _ hcells hq1 hq2 rm2 => ?_
  · intro p hp
    rcases List.mem_cons.mp hp with e | e
    · rw [e]; exact hs1
    · rw [List.mem_singleton.mp e]; exact hs2
  have okS := evS_ok (H := noHk) nv noHk_ok q kk (mm + 2)
  have okE := (evE_ok nv q).1
  have okT := (evE_ok nv q).2
  rw [hb]
  refine ss_then (pre := [t1]) okS rm2 (h1 (dx + 1) l) f2 fun G3 s3 t3 f3 => ?_
  -- what stands
  have hVne : ∀ b : Nat, b ∈ V → dx + 2 ≤ b := fun b hb => by have := hV b hb; rwa [show (⟨H, gn, dr, tk, os⟩ : Shared).heap.objs.size = dx + 2 from hz2] at this
  have keepO : ∀ (b : Nat) (o : Obj), b < dx + 2 → b ∉ B.tb → b ∉ G.O → b ≠ dx → H.get? b = some o → ∀ {G' s'}, Tr B (dx :: G.O) G2 s2 G' s' → s'.heap.get? b = some o := fun b o h1 h2 h3 h4 e G' s' t => by
    refine t.kx.kw.kp b o (fun m => ?_) (kx2.kw.kp b o (fun m => h2 (by simpa using m)) e)
    rcases List.mem_append.mp m with m | m
    · obtain ⟨g1, g2⟩ := mem_Wn.mp m
      rcases (hO b).mp g1 with w | w
      · have := hVne b w; omega
      · exact g2 w
    · exact h2 m
  have xnO : dx + 1 ∉ G.O := fun m => by have := nlt (st.lt _ m); rw [show (⟨hh, gn, dr, tk, os⟩ : Shared).heap.objs.size = dx from hdxe] at this; omega
  have dxnO : dx ∉ G.O := fun m => by have := nlt (st.lt _ m); rw [show (⟨hh, gn, dr, tk, os⟩ : Shared).heap.objs.size = dx from hdxe] at this; omega
  have hxt : dx + 1 ∉ B.tb := fun m => xnO (st.sub _ m)
  have hlt' : l ∉ B.tb := fun m => hlO (st.sub _ m)
  have hx3 := keepO (dx + 1) _ (by omega) hxt xnO (by omega) hx t3
  have hl3 : LstAt s3.heap l items n := keepO l _ (by omega) hlt' hlO (by omega) hl1 t3
  have hdx3 : s3.heap.get? dx = some emptyDict := by
    refine t3.kx.kw.kp dx _ (fun m => ?_) (kx2.kw.kp dx _ (fun m => htb (by simpa using m)) hdx)
    rcases List.mem_append.mp m with m | m
    · exact (mem_Wn.mp m).2 List.mem_cons_self
    · exact htb m
  have up3 : Up { G with O := dx :: G.O } H G3 s3.heap := by
    have u1 := kx2.up st1 (fun _ h => nomatch h)
    have u2 := t3.up f2.st
    exact ⟨fun b o hb e => t3.kx.kw.kp b o (fun m => (List.mem_append.mp m).elim (fun m => (by
        obtain ⟨g1, g2⟩ := mem_Wn.mp m
        rcases (hO b).mp g1 with w | w
        · have := hVne b w; have := nlt (Heap.lt_size e); rw [hz2] at this; omega
        · exact g2 w)) fun m => hb (List.mem_cons_of_mem _ (st.sub _ m))) (kx2.kw.kp b o (fun m => hb (List.mem_cons_of_mem _ (st.sub _ (by simpa using m)))) e),
      fun a ha => (u2.o a ha).elim (fun m => u1.o a m) (fun e => .inr (by
        cases q : H.get? a with
        | none => rfl
        | some o =>
          by_cases hbt : a ∈ B.tb
          · exact absurd (st1.sub a hbt) (fun _ => by
              obtain ⟨vs, ev⟩ := f2.st.tg.some hbt
              rw [ev] at e; cases e)
          · rw [kx2.kw.kp a o (fun m => hbt (by simpa using m)) q] at e; cases e)), Nat.le_trans u1.n u2.n, fun t ht => (u2.τ t (Nat.lt_of_lt_of_le ht u1.n)).trans (u1.τ t ht)⟩
  have hlO3 : l ∉ G3.O := fun m => (up3.o l m).elim (fun m => (List.mem_cons.mp m).elim (fun e => by have := neq e; omega) hlO) fun e => by rw [hl1] at e; cases e
  have hd3 : RdL G3 s3.heap items.toList xs := (hd.up up1).up up3
  -- the list's kind
  refine ⟨@wpAny_execs_cons _ _ _ _ _ _ _ _ (@wpAny_If _ _ _ _ _ _ _ _ _ _ (okT scope.names _ te _ false (h2 (dx + 1) l) rfl _ _ _ env _ _ rm2 f3.kn (f3.se.know (hg2 _ _) (.lst hlO3 hl3 hd3)) fun G4 s4 k4 => ?_).w)⟩
  rw [if_neg (by simp)]
  refine @wpAny_execs_nil _ _ _ _ _ _ ?_
  have f4 := f3.ke k4
  -- the attribute
  refine @wpAny_execs_cons _ _ _ _ _ _ _ _ (@plainObj_wpAny_Assign_Attribute _ _ _ _ _ _ _ _ _ _ _ (okE scope.names _ _ _ (h3 (dx + 1) l) _ G4 s4 env _ _ rm2 f4.kn f4.se fun v5 G5 s5 k5 r5 => (okE scope.names _ _ _ (h3' (dx + 1) l) _ G5 s5 env _ _ rm2 f4.kn (f4.se.ke k5) fun v6 G6 s6 k6 r6 => ?_).w).w rfl)
  obtain rfl := r5.refI
  obtain rfl := r6.refI
  have k46 := (k4.trans k5).trans k6
  have f6 := f3.ke k46
  have hx6 : s6.heap.get? (dx + 1) = some (instObj C dx) := k46.kp _ _ (fun m => hxt (by simpa using m)) hx3
  have hl6 : LstAt s6.heap l items n := lst_kw hl3 k46 (fun h => nomatch h) hlt'
  have hdx6 : s6.heap.get? dx = some emptyDict := k46.kp _ _ (fun m => htb (by simpa using m)) hdx3
  have hns6 : s6.heap.Ns1 dx (fun _ => none) := Heap.Ns1.of_empty ⟨_, #[], _, hdx6, rfl, fun e he => absurd he (by simp), fun _ => rfl⟩
  refine (set_ok (kb.st f6.st) hk hx6 hns6 Within.nil (by simp) fun h' hn' hs' => ?_).w
  have k7 : Kw B [dx] G6 s6 G6 { s6 with heap := h', toks := s6.toks + 2 } := Kw.same1 f6.st (List.mem_singleton.mpr rfl) htb hs' (by omega) (.ns hns6.ns)
  have hcl : ∀ y (c : Nat), env.cells.lookup y = some c → c ≠ dx := fun y c hy e => by
    rcases hcells y c hy with w | w
    · have := hVne c w; omega
    · cases w
  have f7 := f6.kwO k7 List.mem_cons_self h0dx hcl
  have hx7 : h'.get? (dx + 1) = some (instObj C dx) := k7.kp _ _ (fun m => (List.mem_append.mp m).elim (fun m => by have := neq (List.mem_singleton.mp m); omega) hxt) hx6
  have hl7 : LstAt h' l items n := lst_kw (s' := { s6 with heap := h', toks := s6.toks + 2 }) hl6 k7 (fun m => by have := neq (List.mem_singleton.mp m); omega) hlt'
  have hd7 : RdL G6 h' items.toList xs := (hd3.ke f3.st k46).up (k7.up f6.st fun a ha => by rw [List.mem_singleton.mp ha]; exact f6.oo dx List.mem_cons_self)
  -- it is let go
  obtain ⟨G8, t8, f8, hO8⟩ := (f7.closeI h0dx).drop
  have nO8 : ∀ b : Nat, b < dx + 2 → b ∉ G.O → b ∉ G8.O := fun b hb hn m => by
    obtain ⟨_, g⟩ := hO8 b m
    rcases g with g | g | ⟨y, g⟩
    · exact hn g
    · have := hVne b g; omega
    · rcases hcells y b g with w | w
      · have := hVne b w; omega
      · cases w
  have hd8 : RdL G8 h' items.toList xs := hd7.up (t8.up f7.st)
  have hrd : Rd G8 h' (.ref (dx + 1)) (.hdr C xs) := .hdr (nO8 (dx + 1) (by omega) xnO) (nO8 dx (by omega) dxnO) (nO8 l (by omega) hlO) hx7 (Nat.ne_of_lt (Nat.lt_succ_self dx)) hn' hl7 hd8
  have f9 := (f8.know (hg2 (dx + 1) l) (.lst (nO8 _ (by omega) hlO) hl7 hd8)).know (x := sn) (a := dx + 1) (d := .hdr C xs) (by rw [look_put, if_neg (Ne.symm hne)]; exact hg1 _ _) hrd
  obtain ⟨Γ4, hΓ4⟩ := h4 (dx + 1) l
  refine (ss_ok okS rm2 hΓ4 f9 fun fl G10 s10 t10 f10 hfl => ?_).w
  cases fl <;> first | exact False.elim hfl | skip
  refine hq2 _ ⟨rfl, ?_⟩
  have Z : ∀ (b : Nat) (o : Obj), b < dx + 2 → b ∉ B.tb → b ∉ G.O → h'.get? b = some o → s10.heap.get? b = some o := fun b o h1 h2 h3 e => by
    refine t10.kx.kw.kp b o (fun m => ?_) e
    rcases List.mem_append.mp m with m | m
    · exact nO8 b h1 h3 (mem_Wn.mp m).1
    · exact h2 m
  have hn10 : s10.heap.Ns1 dx (fun x => if x = ("_headers" : Str) then some (.ref l) else none) := by
    obtain ⟨o, es, ep, e, w⟩ := hn'
    exact ⟨o, es, ep, Z dx o (by omega) htb dxnO e, w⟩
  -- from the start
  have hge : ∀ a : Nat, a ∈ Wn G2 (dx :: G.O) → a ∈ ([] : List Addr) ∨ dx ≤ a := fun a ha => by
    obtain ⟨g1, g2⟩ := mem_Wn.mp ha
    rcases (hO a).mp g1 with w | w
    · have := hVne a w; exact .inr (by omega)
    · exact absurd w g2
  have hsz0 : (⟨hh, gn, dr, tk, os⟩ : Shared).heap.objs.size = dx := hdxe
  have K1 := kxo.trans kx2 fun _ h => nomatch h
  have K3 := K1.trans t3.kx (fun a ha => by rw [hsz0]; exact hge a ha)
  have K6 := K3.ke k46 f3.st
  have K7 := K6.trans (Kx.of_kw f6.st k7) fun a ha => .inr (by rw [List.mem_singleton.mp ha, hsz0]; exact Nat.le_refl _)
  have hge2 : ∀ (G' : Gh), (∀ a ∈ G'.O, a ∈ G6.O) → ∀ a ∈ Wn G' G.O, a ∈ ([] : List Addr) ∨ (⟨hh, gn, dr, tk, os⟩ : Shared).heap.objs.size ≤ a := fun G' hG' a ha => by
    obtain ⟨g1, g2⟩ := mem_Wn.mp ha
    rcases K6.o a (hG' a g1) with w | w
    · exact absurd w g2
    · exact .inr w
  have K8 := K7.trans t8.kx (hge2 G6 fun _ h => h)
  have K10 := K8.trans t10.kx (hge2 G8 fun a ha => (hO8 a ha).1)
  have hsz10 : dx + 2 ≤ s10.heap.objs.size := by
    have e1 := kx2.sz; have e2 := t3.kx.sz; have e3 := k46.sz; have e4 := k7.sz; have e5 := t8.kx.sz; have e6 := t10.kx.sz
    have e0 : (⟨H, gn, dr, tk, os⟩ : Shared).heap.objs.size = dx + 2 := hz2
    have := Nat.le_trans (Nat.le_trans (Nat.le_trans (Nat.le_trans (Nat.le_trans e1 e2) e3) e4) e5) e6
    rwa [e0] at this
  refine hQ (dx + 1) dx { G10 with O := G.O } s10 K10.kw (Nat.le_succ _) (Nat.le_refl _) (by omega) (by omega) (Z _ _ (by omega) hxt xnO hx7) (by omega) hn10 (Z _ _ (by omega) hlt' hlO hl7) ?_
  exact (hd8.up (t10.up f8.st)).up (Up.free f10.oo)
end
end Mine

end
section
open PySem PySem.W PyProof.Rows
set_option Elab.async false
namespace Mine

noncomputable def objK (K : Frag) (a : Addr) : Obj := (K.lookup a).getD default
noncomputable def refK (v : Value) : Addr := match v with
  | .ref a => a
  | _ => 0
noncomputable def fldK (o : Obj) : Array Value := match o.data with
  | .fields vs => vs
  | _ => #[]
noncomputable def tokS (v : Value) : Tok := match v with
  | .str _ t => t
  | _ => 0
noncomputable def fdD (d : Data) : FuncData := match d with
  | .func fd => fd
  | _ => default
noncomputable def fdOf (K : Frag) (a : Addr) : FuncData := fdD (objK K a).data
noncomputable def cdK (K : Frag) (a : Addr) : Addr := refK (fdOf K a).code
noncomputable abbrev FdGood (K : Frag) (a : Addr) : Prop := (K.lookup a, (objK K a).data, (fdOf K a).code, K.lookup (cdK K a), (objK K (cdK K a)).cls, (objK K (cdK K a)).data, (fldK (objK K (cdK K a)))[1]?, (fdOf K a).globals, (fdOf K a).builtins, (fdOf K a).closure) =
  (some (objK K a), .func (fdOf K a), .ref (cdK K a), some (objK K (cdK K a)), .type "code", .fields (fldK (objK K (cdK K a))), some (.str (fdOf K a).qualname (tokS ((fldK (objK K (cdK K a)))[1]?.getD .none))), mainGlobals, builtinsNs, [])
noncomputable def refO (v : Option (Option Value)) : Addr := refK ((v.getD none).getD .none)
noncomputable def globA (K : Frag) (x : Str) : Addr := refO (nsIn K mainGlobals x)
noncomputable abbrev globOk (K : Frag) (x : Str) : Prop := nsIn K mainGlobals x = some (some (.ref (globA K x)))
noncomputable def methA (K : Frag) (C : Addr) (x : Str) : Addr := refO (findIn K (.ref C) x)
noncomputable abbrev methOk (K : Frag) (C : Addr) (x : Str) : Prop := (findIn K (.ref C) x, typeIn K (.ref (methA K C x))) = (some (some (.ref (methA K C x))), some (.type "function"))
theorem globOk_mg {B : Bs} {K : Frag} (kb : KB B K) {x : Str} (h : globOk K x) : B.mg x = some (.ref (globA K x)) := mg_of kb.in0 B.hg h
theorem methOk_of {K : Frag} {C : Addr} {x : Str} (h : methOk K C x) : findIn K (.ref C) x = some (some (.ref (methA K C x))) ∧ typeIn K (.ref (methA K C x)) = some (.type "function") := Prod.mk.inj h

section
variable {B : Bs} {K : Frag} {a : Addr} {body : List Stmt} {scope : Scope}
theorem tup10 {α1 α2 α3 α4 α5 α6 α7 α8 α9 α10 : Type} {a1 b1 : α1} {a2 b2 : α2} {a3 b3 : α3} {a4 b4 : α4} {a5 b5 : α5} {a6 b6 : α6} {a7 b7 : α7} {a8 b8 : α8} {a9 b9 : α9} {a10 b10 : α10} {P : Prop} (h : (a1, a2, a3, a4, a5, a6, a7, a8, a9, a10) = (b1, b2, b3, b4, b5, b6, b7, b8, b9, b10))
    (k : a1 = b1 → a2 = b2 → a3 = b3 → a4 = b4 → a5 = b5 → a6 = b6 → a7 = b7 → a8 = b8 → a9 = b9 → a10 = b10 → P) : P :=
  k (congrArg (fun x => x.1) h) (congrArg (fun x => x.2.1) h) (congrArg (fun x => x.2.2.1) h) (congrArg (fun x => x.2.2.2.1) h) (congrArg (fun x => x.2.2.2.2.1) h) (congrArg (fun x => x.2.2.2.2.2.1) h) (congrArg (fun x => x.2.2.2.2.2.2.1) h) (congrArg (fun x => x.2.2.2.2.2.2.2.1) h) (congrArg (fun x => x.2.2.2.2.2.2.2.2.1) h) (congrArg (fun x => x.2.2.2.2.2.2.2.2.2) h)
theorem FcAt.of (kb : KB B K) (h : FdGood K a) (hs : (fdOf K a).scope = scope) (hb : (fdOf K a).body = .stmts body) : FcAt B B.h0 a body scope [] (fdOf K a) :=
  tup10 h fun h1 h2 h3 h4 h5 h6 h7 h8 h9 h10 => ⟨kb.no _ _ h1, ⟨_, kb.in0 _ _ h1, h2⟩, hs, hb, h8, h9, h10, _, _, _, _, h3, kb.in0 _ _ h4, h5, h6, h7⟩
theorem FnAt.of {F : Fn} (kb : KB B K) (h : FdGood K a) (hs : (fdOf K a).scope = F.scope) (hb : (fdOf K a).body = .stmts F.body) (ok : fnOk F = true) (hbind : ∀ vs : List Value, vs.length = F.ps.length → bindArgs (fdOf K a) ⟨vs, []⟩ = pure (F.ps.zip vs)) : FnAt B a F := by
  obtain ⟨nt, ⟨o, ho, hd⟩, f1, f2, f3, f4, f5, c, oc, vs, t, g1, g2, g3, g4, g5⟩ := FcAt.of kb h hs hb
  exact ⟨ok, o, _, ho, nt, hd, f1, f2, f3, f4, f5, ⟨c, oc, vs, t, g1, g2, code_not_tb g2 g3 (vs := vs), g4, g5⟩, hbind⟩
end
theorem len_succ {α : Type} {n : Nat} {vs : List α} (h : vs.length = n + 1) : ∃ a r, vs = a :: r ∧ r.length = n := by
  cases vs with
  | nil => exact absurd h.symm (Nat.succ_ne_zero n)
  | cons a r => exact ⟨a, r, rfl, Nat.succ.inj h⟩
theorem len_nil {α : Type} {vs : List α} (h : vs.length = 0) : vs = [] := List.length_eq_zero_iff.mp h
theorem bind1 {fd : FuncData} {x : Str} (h : ∀ a, bindArgs fd ⟨[a], []⟩ = pure [(x, a)]) (vs : List Value) (hl : vs.length = [x].length) : bindArgs fd ⟨vs, []⟩ = pure ([x].zip vs) := by
  obtain ⟨a, r, rfl, h1⟩ := len_succ hl
  obtain rfl := len_nil h1; exact h a
theorem bind2 {fd : FuncData} {x y : Str} (h : ∀ a b, bindArgs fd ⟨[a, b], []⟩ = pure [(x, a), (y, b)]) (vs : List Value) (hl : vs.length = [x, y].length) : bindArgs fd ⟨vs, []⟩ = pure ([x, y].zip vs) := by
  obtain ⟨a, r, rfl, h1⟩ := len_succ hl
  obtain ⟨b, r, rfl, h2⟩ := len_succ h1
  obtain rfl := len_nil h2; exact h a b
theorem bind3 {fd : FuncData} {x y z : Str} (h : ∀ a b c, bindArgs fd ⟨[a, b, c], []⟩ = pure [(x, a), (y, b), (z, c)]) (vs : List Value) (hl : vs.length = [x, y, z].length) : bindArgs fd ⟨vs, []⟩ = pure ([x, y, z].zip vs) := by
  obtain ⟨a, r, rfl, h1⟩ := len_succ hl
  obtain ⟨b, r, rfl, h2⟩ := len_succ h1
  obtain ⟨c, r, rfl, h3⟩ := len_succ h2
  obtain rfl := len_nil h3; exact h a b c

section
variable {B : Bs} {A : Around} {G : Gh} {s : Shared} {E : Value → Shared → Prop} {L : Nat} {rec : Sv}
theorem run_fb {a : Addr} {body : List Stmt} {scope : Scope} {fd : FuncData} {pos : List Value} {kw : List (Str × Value)} {binds : List (Str × Value)} {ds : List D} {d : D} {Γ2 : Gm} {Ω2 : Om} {Q : Value → Shared → Prop}
    (fc : FcAt B s.heap a body scope [] fd) (hok : scOk scope = true) (hnf : noFree scope.names = true) (hbind : ∀ (A' : Around) (E' : Value → Shared → Prop) (Qb : List (Str × Value) → Shared → Prop), Qb binds s → wpAny B.M A' (bindArgs fd ⟨pos, kw⟩) Qb E' s)
    (hst : ∀ p ∈ binds, storable scope.names p.1 = true) (st : St B G s) (r : RdL G s.heap (binds.map (·.2)) ds) (rm : Room (L + 1) A) (ok : OkS B L rec)
    (h : evSs rec scope.names body (bindPs [] (binds.map (·.1)) ds) [] = some (.ret d, Γ2, Ω2)) (hQ : Post B G s d Q) : WP B A (call (.ref a) pos kw) Q E s := by
  refine enter_fb (m := L) fc hok hbind hst st (Clo.none hnf) r rm fun env G1 s1 V Q1 E1 f1 kx hO hV _ _ _ hq1 _ rm1 => ?_
  refine ss_ok ok rm1 h f1 fun fl G2 s2 t2 f2 hfl => ?_
  cases fl <;> first | exact False.elim hfl | skip
  exact hq1 _ _ (hQ _ _ _ (Fm.ke_of hO hV kx t2) (Rd.up (Up.free f2.oo) hfl))

noncomputable def orN (X : Nv) (f : Str → List D → Option D) : Nv := { X with N := fun x ds => match X.N x ds with
  | some d => some d
  | none => f x ds }
theorem orN_ok {X : Nv} {f : Str → List D → Option D} (nv : NvOk B L X) (h : ∀ x ds d, f x ds = some d → NvN B L x ds d) : NvOk B L (orN X f) := by
  refine ⟨fun x ds d e => ?_, nv.k, nv.m, nv.p, nv.t, nv.a, nv.kw⟩
  simp only [orN] at e
  split at e
  · rename_i hd; cases e; exact nv.n x ds _ hd
  · exact h x ds d e
noncomputable def orM (X : Nv) (f : Str → D → List D → Option D) : Nv := { X with M := fun x o ds => match X.M x o ds with
  | some d => some d
  | none => f x o ds }
theorem orM_ok {X : Nv} {f : Str → D → List D → Option D} (nv : NvOk B L X)
    (h : ∀ x d ds r, f x d ds = some r → NvM B L x d ds r) : NvOk B L (orM X f) := by
  refine ⟨nv.n, nv.k, fun x d ds r e => ?_, nv.p, nv.t, nv.a, nv.kw⟩
  simp only [orM] at e
  split at e
  · rename_i hd; cases e; exact nv.m x d ds _ hd
  · exact h x d ds r e
noncomputable def orMK (X : Nv) (f : Str → D → List D → Str → D → Option D) : Nv := { X with MK := fun x o ds kn kd => match X.MK x o ds kn kd with
  | some d => some d
  | none => f x o ds kn kd }
theorem orMK_ok {X : Nv} {f : Str → D → List D → Str → D → Option D} (nv : NvOk B L X)
    (h : ∀ m d ds kn kd r, f m d ds kn kd = some r → NvKw B L m d ds kn kd r) : NvOk B L (orMK X f) := by
  refine ⟨nv.n, nv.k, nv.m, nv.p, nv.t, nv.a, fun x d ds kn kd r e => ?_⟩
  simp only [orMK] at e
  split at e
  · rename_i hd; cases e; exact nv.kw x d ds kn kd _ hd
  · exact h x d ds kn kd r e
theorem FcAt.keep0 {a : Addr} {body : List Stmt} {scope : Scope} {cl : List (Str × Addr)} {fd : FuncData} (f : FcAt B B.h0 a body scope cl fd) : KeepOk B (.ref a) := by
  obtain ⟨o, ho, hd⟩ := f.ob
  exact .func ho f.nt hd

noncomputable def hdrOf (C : Addr) : D → Option (List D)
  | .hdr C' xs => match Nat.beq C' C with
    | true => some xs
    | false => none
  | _ => none
theorem hdrOf_eq {C : Addr} {d : D} {xs : List D} (h : hdrOf C d = some xs) : d = .hdr C xs := by
  cases d <;> first | exact nsd h | skip
  case hdr C' ys =>
    unfold hdrOf at h; dsimp only at h
    split at h
    · rename_i e
      rw [Nat.eq_of_beq_eq_true e, Option.some.inj h]
    · exact nsd h
theorem hdrOf_self {C : Addr} {xs : List D} : hdrOf C (.hdr C xs) = some xs := by unfold hdrOf; dsimp only; rw [Nat.beq_refl]
noncomputable def natM (p1 p2 : Addr) : Str → D → List D → Option D := fun m o ds => match strEq m "search" with
  | true => match refOf1 o with
    | some a => match sole strOf1 ds with
      | some x => match (Nat.beq a p1 || Nat.beq a p2) && Safe x with
        | true => some .none
        | false => none
      | none => none
    | none => none
  | false => none
noncomputable def natA (C : Addr) : Str → D → Option D := fun m o => match strEq m "_headers" with
  | true => match hdrOf C o with
    | some xs => some (.lst xs)
    | none => none
  | false => none
noncomputable def natK (p1 p2 : Addr) : Str → Option D := fun x => match strEq x "_DIV_LIMIT" with
  | true => some (.int 4000)
  | false => match strEq x "_name_disallowed_re" with
    | true => some (.ref p1)
    | false => match strEq x "_value_disallowed_re" with
      | true => some (.ref p2)
      | false => none
noncomputable def nat0 (C p1 p2 : Addr) : Nv := ⟨fun _ _ => none, natK p1 p2, natM p1 p2, natA C, fun _ _ _ _ _ => none⟩

structure Nat0 (B : Bs) (K : Frag) (C p1 p2 : Addr) : Prop where
  kb : KB B K
  hk : HdK K C
  pn : PatAt B.h0 p1 codeN
  pv : PatAt B.h0 p2 codeV
  kl : ∃ t, B.mg "_DIV_LIMIT" = some (.int 4000 t)
  kn : B.mg "_name_disallowed_re" = some (.ref p1)
  kv : B.mg "_value_disallowed_re" = some (.ref p2)
  p : ∀ x p, look prTab x = some p → B.mg x = none ∧ B.mb x = some p.1.val
  t : (B.mg "str" = none ∧ B.mb "str" = some (.type "str")) ∧ (B.mg "list" = none ∧ B.mb "list" = some (.type "list"))

theorem PatAt.st {p : Addr} {code : Array Nat} (h : PatAt B.h0 p code) (st : St B G s) : PatAt s.heap p code := by
  obtain ⟨o, vs, ct, ho, hc, hd, hdt, h6, h5, h2, oc, its, n, hoc, hod, hcode⟩ := h.ob
  refine ⟨o, vs, ct, st.kp p o (fun q => ?_) ho, hc, hd, hdt, h6, h5, h2, oc, its, n, st.kp ct oc (fun q => ?_) hoc, hod, hcode⟩
  · obtain ⟨vs', e⟩ := B.tab.some q
    rw [ho] at e; cases e; cases hc
  · obtain ⟨vs', e⟩ := B.tab.some q
    rw [hoc] at e; cases e; cases hod
theorem nat0_ok {K : Frag} {C p1 p2 : Addr} (n0 : Nat0 B K C p1 p2) : NvOk B L (nat0 C p1 p2) := by
  refine ⟨fun _ _ _ h => (nomatch h), fun x d h => ?_, fun m o ds r h => ?_, n0.p, n0.t, fun m d r h A G s E Q o ex st rd hQ => ?_, fun _ _ _ _ _ _ h => (nomatch h)⟩
  · simp only [nat0, natK] at h
    split at h
    · rename_i hx
      cases h
      obtain ⟨t, ht⟩ := n0.kl
      exact ⟨_, by rw [strEq_iff.mp hx]; exact ht, fun _ _ _ => .int _ _⟩
    · split at h
      · rename_i hx
        cases h
        exact ⟨_, by rw [strEq_iff.mp hx]; exact n0.kn, fun _ _ _ => .ref _⟩
      · split at h
        · rename_i hx
          cases h
          exact ⟨_, by rw [strEq_iff.mp hx]; exact n0.kv, fun _ _ _ => .ref _⟩
        · first | exact nsd h | exact nft h | exact ntf h | cases h
  · replace h : natM p1 p2 m o ds = some r := h
    unfold natM at h
    split at h
    · rename_i hm
      split at h
      · rename_i a ha
        split at h
        · rename_i x hx
          split at h
          · rename_i hc
            rw [Bool.and_eq_true] at hc
            obtain ⟨ha', hs⟩ := hc
            obtain rfl := strEq_iff.mp hm
            obtain rfl := refOf1_eq ha
            obtain ⟨dx, rfl, hx⟩ := sole_eq hx
            obtain rfl := strOf1_eq hx
            have hr := (Option.some.inj h).symm
            subst hr
            have hpat : ∃ code, (code = codeN ∨ code = codeV) ∧ PatAt B.h0 a code := by
              rw [Bool.or_eq_true] at ha'
              rcases ha' with e | e
              · exact ⟨_, .inl rfl, Nat.eq_of_beq_eq_true e ▸ n0.pn⟩
              · exact ⟨_, .inr rfl, Nat.eq_of_beq_eq_true e ▸ n0.pv⟩
            obtain ⟨code, hc, hp⟩ := hpat
            refine ⟨.builtin "re.Pattern.search", fun A G s E Q o pl st rd hq => ?_, .builtin _, fun A G s vs E Q rm st r hQ => ?_⟩
            · obtain rfl := rd.refI
              obtain ⟨ob, vs, ct, ho, hcl, hd, _⟩ := (hp.st st).ob
              exact ⟨@getMethod_builtin _ _ _ _ _ _ _ _ _ _ ⟨ob, ho, hcl⟩ SF.plainAttrs_pat SF.slot_search SF.type_search (fun b e => Value.ref.inj e ▸ ⟨ob, ho, hd⟩) hq⟩
            · obtain ⟨v, w, rfl, rv, rw'⟩ := r.two
              refine rw'.strK fun t => ?_
              obtain rfl := rv.refI
              exact ⟨search_ok (hp.st st) hc hs (hQ.val st .none)⟩
          · exact nsd h
        · exact nsd h
      · exact nsd h
    · exact nsd h
  · replace h : natA C m d = some r := h
    unfold natA at h
    split at h
    · rename_i hm
      split at h
      · rename_i xs hx
        obtain rfl := strEq_iff.mp hm
        obtain rfl := hdrOf_eq hx
        have hr := (Option.some.inj h).symm
        subst hr
        exact hdr_attr n0.kb n0.hk st rd hQ
      · exact nsd h
    · exact nsd h
end
end Mine

end
section
open PySem PySem.W PyProof.Rows
set_option Elab.async false
namespace Mine

section
variable {X : Nv} {n k m : Nat} {sc : Kd} {Γ Γ1 : Gm} {Ω Ω1 : Om} {H : Hk} {ev : Kd → Gm → Expr → Option D}
theorem evE_bin {l r : Expr} {op : Operator} {p : Pos} {a b d : D} (h1 : evE X n sc Γ l = some a) (h2 : evE X n sc Γ r = some b) (h3 : binop op a b = some d) : evE X (n + 1) sc Γ (.BinOp l op r p) = some d := by
  show (match evE X n sc Γ l with
    | none => none
    | some a => match evE X n sc Γ r with
      | none => none
      | some b => binop op a b) = _
  rw [h1, h2]; exact h3
theorem evE_cmp1 {l r : Expr} {op : CmpOp} {p : Pos} {a b : D} {c : Bool} (hm : lastMarks [op] [r] = false) (h1 : evE X n sc Γ l = some a) (h2 : evE X n sc Γ r = some b) (h3 : cmpD op a b = some c) : evE X (n + 1) sc Γ (.Compare l [op] [r] p) = some (.bool c) := by
  show (match lastMarks [op] [r] with
    | true => none
    | false => match evE X n sc Γ l with
      | none => none
      | some a => chainD (evE X n sc Γ) a [op] [r]) = _
  rw [hm, h1]
  show ((evE X n sc Γ r).bind fun b => (cmpD op a b).map D.bool) = _
  rw [h2]
  show (cmpD op a b).map D.bool = _
  rw [h3]; rfl
theorem evE_call {x : Str} {px p : Pos} {as : List Expr} {ds : List D} {d : D} (h0 : strEq x "__debug__" = false) (hk : kc (look sc x) = .glo) (h1 : each (evE X n sc Γ) as = some ds) (h2 : X.N x ds = some d) : evE X (n + 1) sc Γ (.Call (.Name x px) as [] p) = some d := by
  show tst (!strEq x "__debug__" && decide (kc (look sc x) = .glo)) ((each (evE X n sc Γ) as).bind fun ds => orE (X.N x ds) some ((look prTab x).bind fun p => primD p.1 ds)) = _
  rw [h0, hk, h1]
  show orE (X.N x ds) some _ = _
  rw [h2]; rfl
theorem evE_prim {x : Str} {px p : Pos} {as : List Expr} {ds : List D} {d : D} {pr : Pr × Value} (h0 : strEq x "__debug__" = false) (hk : kc (look sc x) = .glo) (h1 : each (evE X n sc Γ) as = some ds) (h2 : X.N x ds = none) (h3 : look prTab x = some pr) (h4 : primD pr.1 ds = some d) : evE X (n + 1) sc Γ (.Call (.Name x px) as [] p) = some d := by
  show tst (!strEq x "__debug__" && decide (kc (look sc x) = .glo)) ((each (evE X n sc Γ) as).bind fun ds => orE (X.N x ds) some ((look prTab x).bind fun p => primD p.1 ds)) = _
  rw [h0, hk, h1]
  show orE (X.N x ds) some ((look prTab x).bind fun p => primD p.1 ds) = _
  rw [h2, h3]; exact h4
theorem evE_meth {o : Expr} {mn : Str} {apos p : Pos} {as : List Expr} {d : D} {ds : List D} {r : D} (h0 : (apos.endLine == p.line) = true) (hb : baseOk o = true) (hl : Nat.ble as.length 20 = true) (h1 : evE X n sc Γ o = some d) (h2 : each (evE X n sc Γ) as = some ds)
    (h3 : orE (look mtTab mn) (fun t => methD t d ds) (X.M mn d ds) = some r) : evE X (n + 1) sc Γ (.Call (.Attribute o mn apos) as [] p) = some r := by
  show tst ((apos.endLine == p.line) && (baseOk o && Nat.ble as.length 20)) ((evE X n sc Γ o).bind fun d => (each (evE X n sc Γ) as).bind fun ds => orE (look mtTab mn) (fun t => methD t d ds) (X.M mn d ds)) = _
  rw [h0, hb, hl, h1]
  show ((each (evE X n sc Γ) as).bind fun ds => orE (look mtTab mn) (fun t => methD t d ds) (X.M mn d ds)) = _
  rw [h2]; exact h3
theorem evE_methX {o : Expr} {mn : Str} {apos p : Pos} {as : List Expr} {d : D} {ds : List D} {r : D} (h0 : (apos.endLine == p.line) = true) (hb : baseOk o = true) (hl : Nat.ble as.length 20 = true) (hm : look mtTab mn = none) (h1 : evE X n sc Γ o = some d) (h2 : each (evE X n sc Γ) as = some ds)
    (h3 : X.M mn d ds = some r) : evE X (n + 1) sc Γ (.Call (.Attribute o mn apos) as [] p) = some r := evE_meth h0 hb hl h1 h2 (by rw [hm]; exact h3)
theorem evE_methK {o : Expr} {mn kn : Str} {apos p kp : Pos} {as : List Expr} {ve : Expr} {d kd : D} {ds : List D} {r : D} (h0 : (apos.endLine == p.line) = true) (hb : baseOk o = true) (hl : Nat.ble as.length 20 = true) (hne : as.isEmpty = false) (h1 : evE X n sc Γ o = some d) (h2 : each (evE X n sc Γ) as = some ds) (hk : evE X n sc Γ ve = some kd)
    (h3 : X.MK mn d ds kn kd = some r) : evE X (n + 1) sc Γ (.Call (.Attribute o mn apos) as [⟨some kn, ve, kp⟩] p) = some r := by
  show callK X (evE X n sc Γ) (.Attribute o mn apos) as [⟨some kn, ve, kp⟩] p = _
  show tst ((apos.endLine == p.line) && (baseOk o && (Nat.ble as.length 20 && !as.isEmpty))) ((evE X n sc Γ o).bind fun d => (each (evE X n sc Γ) as).bind fun ds => (evE X n sc Γ ve).bind fun kd => X.MK mn d ds kn kd) = _
  rw [h0, hb, hl, hne, h1]
  show ((each (evE X n sc Γ) as).bind fun ds => (evE X n sc Γ ve).bind fun kd => X.MK mn d ds kn kd) = _
  rw [h2, hk]; exact h3
theorem evE_attr {x : Str} {px p : Pos} {mn : Str} {d r : D} (h1 : evE X n sc Γ (.Name x px) = some d) (h2 : X.A mn d = some r) : evE X (n + 1) sc Γ (.Attribute (.Name x px) mn p) = some r := by
  show (match evE X n sc Γ (.Name x px) with
    | none => none
    | some d => X.A mn d) = _
  rw [h1]; exact h2
theorem evE_tup {es : List Expr} {c : Nat} {p : Pos} {ds : List D} (h : each (evE X n sc Γ) es = some ds) (hl : Nat.ble ds.length 1000 = true) : evE X (n + 1) sc Γ (.Tuple es c p) = some (.tup ds) := by
  show (match each (evE X n sc Γ) es with
    | none => none
    | some ds => match Nat.ble ds.length 1000 with
      | true => some (D.tup ds)
      | false => none) = _
  rw [h]; dsimp only; rw [hl]
theorem subD_plain {f : Expr → Option D} {v i : Expr} {a : D} (hs : isSlice i = false) (h1 : f v = some a) : subD f v i = (f i).bind fun b => itemD a b := by
  unfold subD
  rw [h1]
  show orE (slcOf i) _ (tst (!isSlice i) _) = _
  rw [slcOf_none hs, hs]; rfl
theorem evE_item {v i : Expr} {p : Pos} {a b d : D} (hs : isSlice i = false) (h1 : evE X n sc Γ v = some a) (h2 : evE X n sc Γ i = some b) (h3 : itemD a b = some d) : evE X (n + 1) sc Γ (.Subscript v i p) = some d := by
  show subD (evE X n sc Γ) v i = _
  rw [subD_plain hs h1, h2]; exact h3
theorem evE_slice {v : Expr} {lo hi st : Option Expr} {p sp : Pos} {a d : D} {l h q : Option Int} (h1 : evE X n sc Γ v = some a) (h2 : partE (evE X n sc Γ) lo = some l) (h3 : partE (evE X n sc Γ) hi = some h) (h4 : partE (evE X n sc Γ) st = some q) (h5 : sliceD a l h q = some d) :
    evE X (n + 1) sc Γ (.Subscript v (.Slice lo hi st sp) p) = some d := by
  show subD (evE X n sc Γ) v (.Slice lo hi st sp) = _
  show ((evE X n sc Γ v).bind fun a => slcD (evE X n sc Γ) a lo hi st) = _
  rw [h1]
  show ((partE (evE X n sc Γ) lo).bind fun l => (partE (evE X n sc Γ) hi).bind fun h => (partE (evE X n sc Γ) st).bind fun p => sliceD a l h p) = _
  rw [h2, h3, h4]; exact h5
theorem each_cons {f : Expr → Option D} {e : Expr} {r : List Expr} {d : D} {ds : List D} (hs : isStar e = false) (h1 : f e = some d) (h2 : each f r = some ds) : each f (e :: r) = some (d :: ds) := by
  show (match isStar e with
    | true => none
    | false => match f e with
      | none => none
      | some d => match each f r with
        | none => none
        | some ds => some (d :: ds)) = _
  rw [hs]; dsimp only; rw [h1]; dsimp only; rw [h2]

theorem evE_comp {elt : Expr} {g : Comprehension} {gs : List Comprehension} {scope : Scope} {p : Pos} {d : D} {xs out : List D} (h1 : allSync (g :: gs) = true) (h2 : isSet g.iter = false) (h3 : scopeOk sc scope = true) (h4 : evE X n sc Γ g.iter = some d) (h5 : iterD d = some xs)
    (h6 : compL (bindN scope.names (freeG Γ scope.names) g.target) (fun Γ' => testsD (evE X n scope.names Γ') g.ifs) (compI (evE X n) scope.names elt gs) xs = some out) (h7 : Nat.ble out.length 1000 = true) : evE X (n + 1) sc Γ (.ListComp elt (g :: gs) scope p) = some (.lst out) := by
  show compD (evE X n) sc Γ elt (g :: gs) scope = _
  show tst (allSync (g :: gs) && (!isSet g.iter && scopeOk sc scope)) ((evE X n sc Γ g.iter).bind fun d => (iterD d).bind fun xs => (compL (bindN scope.names (freeG Γ scope.names) g.target) (fun Γ' => testsD (evE X n scope.names Γ') g.ifs) (compI (evE X n) scope.names elt gs) xs).bind fun out => tst (Nat.ble out.length 1000) (some (D.lst out))) = _
  rw [h1, h2, h3, h4]
  show ((iterD d).bind fun xs => (compL _ _ _ xs).bind fun out => tst (Nat.ble out.length 1000) (some (D.lst out))) = _
  rw [h5]
  show ((compL _ _ _ xs).bind fun out => tst (Nat.ble out.length 1000) (some (D.lst out))) = _
  rw [h6]
  show tst (Nat.ble out.length 1000) (some (D.lst out)) = _
  rw [h7]; rfl
theorem compI_nil {rec : Ev} {elt : Expr} {d : D} (h : rec sc Γ elt = some d) : compI rec sc elt [] Γ = some [d] := by
  show (rec sc Γ elt).map (fun d => [d]) = _
  rw [h]; rfl
theorem compL_flat {α : Type} {bind : D → Option Gm} {tests : Gm → Option Bool} {inner : Gm → Option (List D)} {f : α → D} {p : α → Bool} {g : α → List D} : ∀ {l : List α}, (∀ x ∈ l, ∃ Γ, bind (f x) = some Γ ∧ tests Γ = some (p x) ∧ (p x = true → inner Γ = some (g x))) →
    compL bind tests inner (l.map f) = some ((l.filter p).map g).flatten
  | [], _ => rfl
  | x :: l, h => by
    obtain ⟨Γ, h1, h2, h3⟩ := h x List.mem_cons_self
    have ih := compL_flat (l := l) fun y hy => h y (List.mem_cons_of_mem _ hy)
    rw [List.map_cons]
    show ((bind (f x)).bind fun Γ => (tests Γ).bind fun b => cond b ((inner Γ).bind fun o => (compL bind tests inner (l.map f)).map fun r => o ++ r) (compL bind tests inner (l.map f))) = _
    rw [h1]
    show ((tests Γ).bind fun b => cond b _ _) = _
    rw [h2]
    cases hp : p x with
    | false => rw [List.filter_cons_of_neg (by rw [hp]; exact Bool.false_ne_true)]; exact ih
    | true =>
      rw [List.filter_cons_of_pos hp]
      show ((inner Γ).bind fun o => (compL bind tests inner (l.map f)).map fun r => o ++ r) = _
      rw [h3 hp, ih]; rfl
theorem compL_map {α : Type} {bind : D → Option Gm} {tests : Gm → Option Bool} {inner : Gm → Option (List D)} {f : α → D} {p : α → Bool} {g : α → D} {l : List α} (h : ∀ x ∈ l, ∃ Γ, bind (f x) = some Γ ∧ tests Γ = some (p x) ∧ (p x = true → inner Γ = some [g x])) :
    compL bind tests inner (l.map f) = some ((l.filter p).map g) := by
  rw [compL_flat (g := fun x => [g x]) h]
  congr 1
  induction (l.filter p) with
  | nil => rfl
  | cons x r ih => simp only [List.map_cons, List.flatten_cons, ih]; rfl
theorem filter_true {α : Type} (l : List α) : l.filter (fun _ => true) = l := List.filter_eq_self.mpr fun _ _ => rfl
theorem compL_all {α : Type} {bind : D → Option Gm} {tests : Gm → Option Bool} {inner : Gm → Option (List D)} {f : α → D} {g : α → D} {l : List α} (h : ∀ x ∈ l, ∃ Γ, bind (f x) = some Γ ∧ tests Γ = some true ∧ inner Γ = some [g x]) :
    compL bind tests inner (l.map f) = some (l.map g) := by
  have := compL_map (bind := bind) (tests := tests) (inner := inner) (f := f) (g := g) (p := fun _ => true) (l := l) fun x hx => let ⟨Γ, a, b, c⟩ := h x hx; ⟨Γ, a, b, fun _ => c⟩
  rw [this, filter_true]

theorem evF_of {f : Gm → Expr → Option D} {e : Expr} {d : D} (h : f Γ e = some d) : evF f Γ Ω e = some (d, Γ, Ω) := by unfold evF; rw [h]
theorem testD_of {f : Gm → Expr → Option D} {e : Expr} {d : D} {b : Bool} (h : f Γ e = some d) (hb : truth d = some b) : testD f Γ Ω e = some (b, Γ, Ω) := by
  unfold testD; rw [evF_of h]; dsimp only; rw [hb]
theorem evS_asg {x : Str} {px p : Pos} {v : Expr} {d : D} (hH : H.S sc Γ Ω (.Assign [.Name x px] v p) = none) (hx : storable sc x = true) (hl : isLst v = false) (h : ev sc Γ v = some d) : evS H ev k (m + 1) sc Γ Ω (.Assign [.Name x px] v p) = some (.nxt, put Γ x d, del Ω x) := by
  show (match H.S sc Γ Ω (.Assign [.Name x px] v p) with
    | some r => some r
    | none => assignD ev sc Γ Ω (.Name x px) v) = _
  rw [hH]; dsimp only
  unfold assignD; dsimp only
  rw [hx]; dsimp only; rw [hl]; dsimp only; rw [evF_of h]
theorem evS_own {x : Str} {px p : Pos} {v : Expr} {ds : List D} (hH : H.S sc Γ Ω (.Assign [.Name x px] v p) = none) (hx : storable sc x = true) (hl : isLst v = true) (h : ev sc Γ v = some (.lst ds)) : evS H ev k (m + 1) sc Γ Ω (.Assign [.Name x px] v p) = some (.nxt, del Γ x, putA Ω x (.lst ds)) := by
  show (match H.S sc Γ Ω (.Assign [.Name x px] v p) with
    | some r => some r
    | none => assignD ev sc Γ Ω (.Name x px) v) = _
  rw [hH]; dsimp only
  unfold assignD; dsimp only
  rw [hx]; dsimp only; rw [hl]; dsimp only; rw [evF_of h]
theorem evS_tup {ts : List Expr} {c : Nat} {tp p : Pos} {v : Expr} {d : D} (hH : H.S sc Γ Ω (.Assign [.Tuple ts c tp] v p) = none) (hv : isTup v = false) (h : ev sc Γ v = some d) (hb : bindT sc (.Tuple ts c tp) d Γ = some Γ1) :
    evS H ev k (m + 1) sc Γ Ω (.Assign [.Tuple ts c tp] v p) = some (.nxt, Γ1, delT Ω (.Tuple ts c tp)) := by
  show (match H.S sc Γ Ω (.Assign [.Tuple ts c tp] v p) with
    | some r => some r
    | none => assignD ev sc Γ Ω (.Tuple ts c tp) v) = _
  rw [hH]; dsimp only
  unfold assignD; dsimp only; rw [hv]; dsimp only; unfold tupD; rw [evF_of h]; dsimp only; rw [hb]
theorem evS_aug {x : Str} {px p : Pos} {op : Operator} {v : Expr} {a b d : D} (hH : H.S sc Γ Ω (.AugAssign (.Name x px) op v p) = none) (hx : storable sc x = true) (hc : strEq x "__classdict__" = false) (hl : look Γ x = some a) (h : ev sc Γ v = some b) (ho : inpOp op a b = some d) :
    evS H ev k (m + 1) sc Γ Ω (.AugAssign (.Name x px) op v p) = some (.nxt, put Γ x d, del Ω x) := by
  show (match H.S sc Γ Ω (.AugAssign (.Name x px) op v p) with
    | some r => some r
    | none => augD (ev sc) sc Γ Ω x op v) = _
  rw [hH]; dsimp only
  unfold augD; rw [hx]; dsimp only; rw [hc]; dsimp only; rw [hl]; dsimp only; rw [h]; dsimp only; rw [ho]
theorem evS_IfH {t : Expr} {b o : List Stmt} {p : Pos} {c : Bool} (hH : H.S sc Γ Ω (.If t b o p) = none) (h : testD (ev sc) Γ Ω t = some (c, Γ1, Ω1)) : evS H ev k (m + 1) sc Γ Ω (.If t b o p) = evSs (evS H ev k m) sc (cond c b o) Γ1 Ω1 := by
  show (match H.S sc Γ Ω (.If t b o p) with
    | some r => some r
    | none => match testD (ev sc) Γ Ω t with
      | none => none
      | some (c, Γ1, Ω1) => match c with
        | true => evSs (evS H ev k m) sc b Γ1 Ω1
        | false => evSs (evS H ev k m) sc o Γ1 Ω1) = _
  rw [hH]; dsimp only; rw [h]; cases c <;> rfl
theorem evS_RetH {e : Expr} {d : D} {p : Pos} (hH : H.S sc Γ Ω (.Return (some e) p) = none) (h : ev sc Γ e = some d) : evS H ev k (m + 1) sc Γ Ω (.Return (some e) p) = some (.ret d, Γ, Ω) := by
  show (match H.S sc Γ Ω (.Return (some e) p) with
    | some r => some r
    | none => match evF (ev sc) Γ Ω e with
        | none => none
        | some (d, Γ1, Ω1) => some (Fl.ret d, Γ1, Ω1)) = _
  rw [hH]; dsimp only; rw [evF_of h]
theorem evS_ForH {t i : Expr} {b : List Stmt} {p : Pos} {d : D} {xs : List D} (hH : H.S sc Γ Ω (.For t i b [] p) = none) (hs : isSet i = false) (h : ev sc Γ i = some d) (hi : iterD d = some xs) : evS H ev k (m + 1) sc Γ Ω (.For t i b [] p) = forD sc t (evSs (evS H ev k m) sc b) xs Γ Ω := by
  show (match H.S sc Γ Ω (.For t i b [] p) with
    | some r => some r
    | none => match ([] : List Stmt), isSet i with
      | [], false => match evF (ev sc) Γ Ω i with
        | none => none
        | some (d, Γ1, Ω1) => match iterD d with
          | none => none
          | some xs => forD sc t (evSs (evS H ev k m) sc b) xs Γ1 Ω1
      | _, _ => none) = _
  rw [hH]; dsimp only; rw [hs]; dsimp only; rw [evF_of h]; dsimp only; rw [hi]
theorem evS_dropK {f : Expr} {args : List Expr} {kw : Keyword} {kws : List Keyword} {cp p : Pos} {d : D} (hH : H.S sc Γ Ω (.Expr (.Call f args (kw :: kws) cp) p) = none) (h : ev sc Γ (.Call f args (kw :: kws) cp) = some d) {x : Str} (hp : strOf1 d = some x) :
    evS H ev k (m + 1) sc Γ Ω (.Expr (.Call f args (kw :: kws) cp) p) = some (.nxt, Γ, Ω) := by
  show (match H.S sc Γ Ω (.Expr (.Call f args (kw :: kws) cp) p) with
    | some r => some r
    | none => dropD (ev sc) Γ Ω (.Call f args (kw :: kws) cp)) = _
  rw [hH]; dsimp only
  show ((evF (ev sc) Γ Ω (.Call f args (kw :: kws) cp)).bind fun p => (strOf1 p.1).bind fun _ => some (Fl.nxt, p.2)) = _
  rw [evF_of h]
  show ((strOf1 d).bind fun _ => some (Fl.nxt, Γ, Ω)) = _
  rw [hp]; rfl
theorem forD_inv {α : Type} {t : Expr} {body : Gm → Om → Option Rs} {f : α → D} (I : List α → Gm → Om → Prop) : ∀ (l done : List α) (Γ : Gm) (Ω : Om), I done Γ Ω →
    (∀ done x Γ Ω, (∃ rest, done ++ x :: rest = done ++ x :: rest) → I done Γ Ω → x ∈ l → ∃ Γ1 Γ2 Ω2, bindT sc t (f x) Γ = some Γ1 ∧ body Γ1 (delT Ω t) = some (.nxt, Γ2, Ω2) ∧ I (done ++ [x]) Γ2 Ω2) →
    ∃ Γ2 Ω2, forD sc t body (l.map f) Γ Ω = some (.nxt, Γ2, Ω2) ∧ I (done ++ l) Γ2 Ω2
  | [], done, Γ, Ω, h, _ => ⟨Γ, Ω, rfl, by simpa using h⟩
  | x :: l, done, Γ, Ω, h, hs => by
    obtain ⟨Γ1, Γ2, Ω2, h1, h2, h3⟩ := hs done x Γ Ω ⟨l, rfl⟩ h List.mem_cons_self
    obtain ⟨Γ3, Ω3, h4, h5⟩ := forD_inv I l (done ++ [x]) Γ2 Ω2 h3 fun d y Γ Ω e hi hm => hs d y Γ Ω e hi (List.mem_cons_of_mem _ hm)
    refine ⟨Γ3, Ω3, ?_, by simpa using h5⟩
    rw [List.map_cons]
    show (match bindT sc t (f x) Γ with
    | none => none
    | some Γ1 => match body Γ1 (delT Ω t) with
      | none => none
      | some (fl, Γ2, Ω2) => match fl with
        | .nxt => forD sc t body (l.map f) Γ2 Ω2
        | .cnt => forD sc t body (l.map f) Γ2 Ω2
        | .brk => some (.nxt, Γ2, Ω2)
        | .ret d => some (.ret d, Γ2, Ω2)) = _
    rw [h1]; dsimp only; rw [h2]; exact h4
theorem evSs_append {rec : Sv} : ∀ {a b : List Stmt} {Γ : Gm} {Ω : Om}, evSs rec sc a Γ Ω = some (.nxt, Γ1, Ω1) → evSs rec sc (a ++ b) Γ Ω = evSs rec sc b Γ1 Ω1
  | [], b, Γ, Ω, h => by cases h; rfl
  | st :: a, b, Γ, Ω, h => by
    unfold evSs at h
    split at h
    · first | exact nsd h | exact nft h | exact ntf h | cases h
    rename_i fl Γ' Ω' h1
    cases fl <;> simp only [reduceCtorEq, Option.some.injEq, Prod.mk.injEq, false_and] at h
    rw [List.cons_append, evSs_cons h1]
    exact evSs_append h
end

theorem mul_D {a b : Int} (hs : Builtin.Int.intBits b ≤ 64) : binop .Mult (.int a) (.int b) = some (.int (a * b)) := by
  refine if_neg ?_
  intro q
  simp only [Bool.and_eq_true, decide_eq_true_eq] at q
  have := q.1.2
  have e : shortFactorBits = 64 := rfl
  omega
theorem len_D {xs : List D} (h : (xs.length : Int) < 2 ^ 63) : primD .len [.lst xs] = some (.int xs.length) := by
  show lenP (.lst xs) = _
  unfold lenP
  simp only [h, if_true]
theorem intBits_nat {n k : Nat} (h : n < 2 ^ k) : Builtin.Int.intBits (n : Int) ≤ k := intBits_le (Int.natCast_nonneg _) (by have : ((n : Nat) : Int) < ((2 ^ k : Nat) : Int) := Int.ofNat_lt.mpr h; simpa using this)
theorem noPy {a b : Int} (h : b.natAbs < 2 ^ 9000) : Builtin.divisionGoesByPylong a b = false := by
  unfold Builtin.divisionGoesByPylong
  have : ¬ ((if b == 0 then 0 else b.natAbs.log2 / 30 + 1) > 300) := by
    split
    · omega
    · rename_i hb
      have h2 : b.natAbs.log2 < 9000 := (Nat.log2_lt (by simpa using hb)).mpr h
      omega
  simp only [decide_eq_false this, Bool.false_and]
theorem fdv_D {a b : Int} (hb : b ≠ 0) (h : b.natAbs < 2 ^ 9000) : binop .FloorDiv (.int a) (.int b) = some (.int (a.fdiv b)) := by
  refine if_neg ?_
  rintro (q | q)
  · exact hb q
  · rw [noPy h] at q; cases q
theorem dvm_D {a b : Int} (hb : b ≠ 0) (h : b.natAbs < 2 ^ 9000) : primD .divmod [.int a, .int b] = some (.tup [.int (a.fdiv b), .int (a.fmod b)]) := by
  refine if_neg ?_
  rintro (q | q)
  · exact hb q
  · rw [noPy h] at q; cases q
theorem nat9 {n : Nat} (h : n ≤ 2 ^ 14) : (n : Int).natAbs < 2 ^ 9000 := by
  have h1 : n < 2 ^ 15 := by omega
  exact Nat.lt_of_lt_of_le h1 (Nat.pow_le_pow_right (by decide) (by decide))
theorem lt_pow_bits (x : Nat) : x < 2 ^ Builtin.Int.intBits (x : Int) := by
  unfold Builtin.Int.intBits
  by_cases h : x = 0
  · subst h; simp
  · rw [if_neg (by simpa using h)]
    exact Nat.lt_log2_self
theorem shl_D {a n : Int} (h0 : 0 ≤ n) (hs : (Builtin.Int.intBits a : Int) + n ≤ 2 ^ 27) : binop .LShift (.int a) (.int n) = some (.int (a * 2 ^ n.toNat)) := by
  exact if_pos ⟨h0, hs⟩
theorem shr_D {a n : Int} (h0 : 0 ≤ n) : binop .RShift (.int a) (.int n) = some (.int (a.fdiv (2 ^ n.toNat))) := by
  exact if_pos h0
end Mine

end
section
open PySem PySem.W PyProof.Rows
set_option Elab.async false
set_option maxRecDepth 100000
namespace Mine

noncomputable def Pb : List Stmt := PySem.Challenge.pw_pu0068_01.main.body
noncomputable def noE : Expr := .Constant .none 0 default
noncomputable def stP (s : Stmt) : List Expr × Expr × List Stmt × List Stmt × Str × Arguments × Scope × Pos := match s with
  | .Assign ts v _ => (ts, v, [], [], "", default, default, default)
  | .Return v _ => ([], v.getD noE, [], [], "", default, default, default)
  | .Expr v _ => ([], v, [], [], "", default, default, default)
  | .If t b o _ => ([t], t, b, o, "", default, default, default)
  | .While t b o _ => ([t], t, b, o, "", default, default, default)
  | .For t i b o _ => ([t], i, b, o, "", default, default, default)
  | .FunctionDef n a b _ _ _ s _ _ p => ([], noE, b, [], n, a, s, p)
  | .ClassDef n _ _ b _ _ _ _ _ _ _ => ([], noE, b, [], n, default, default, default)
  | _ => ([], noE, [], [], "", default, default, default)
noncomputable def exP (e : Expr) : List Expr × Kd × Expr := match e with
  | .Call _ as _ _ => (as, [], noE)
  | .List es _ => (es, [], noE)
  | .ListComp _ gs s _ => ([], s.names, (gs.head?.map fun g => g.iter).getD noE)
  | _ => ([], [], noE)
noncomputable def ifB (s : Stmt) : List Stmt := (stP s).2.2.1
noncomputable def stBody (s : Stmt) : List Stmt := (stP s).2.2.1
noncomputable def defOf (x : Str) (l : List Stmt) : Stmt := (l.find? fun s => strEq x (stP s).2.2.2.2.1).getD (.Pass default)
noncomputable def clsOf (x : Str) (l : List Stmt) : List Stmt := ifB (defOf x l)
noncomputable def asV (s : Stmt) : Expr := (stP s).2.1
noncomputable def tgt (s : Stmt) : Expr := (stP s).1.headD noE
noncomputable def argE (i : Nat) (e : Expr) : Expr := (exP e).1.getD i noE
noncomputable def stScope (s : Stmt) : Scope := (stP s).2.2.2.2.2.2.1
noncomputable def stArgs (s : Stmt) : Arguments := (stP s).2.2.2.2.2.1
noncomputable def stPos (s : Stmt) : Pos := (stP s).2.2.2.2.2.2.2
noncomputable def fnOf (s : Stmt) : Fn := ⟨(stArgs s).args.map (·.arg), stBody s, stScope s⟩

noncomputable def dI2d : Stmt := defOf "_int2digits" Pb
noncomputable def dI2i : Stmt := (stBody dI2d).getD 1 (.Pass default)
noncomputable def dD2i : Stmt := defOf "_digits2int" Pb
noncomputable def dD2n : Stmt := (stBody dD2i).getD 0 (.Pass default)


section
variable {B : Bs} {K : Frag} {C p1 p2 : Nat} {L : Nat}

theorem d2i_nat (nv : NvOk B L (nat0 C p1 p2)) {a c P : Addr} {fd : FuncData} (fc0 : FcAt B B.h0 a (stBody dD2i) (stScope dD2i) [] fd) (hbind : ∀ v w, bindArgs fd ⟨[v, w], []⟩ = pure [(Str.ofString "digits", v), (Str.ofString "n", w)])
    (hcode : fd.code = .ref c) (Ch : CodeHd B.h0 c P) (hP : P ∈ B.tb) (hdn : B.dn P = (stPos dD2n, Str.ofString "_digits2int.<locals>.inner")) (hq : fd.qualname = "_digits2int") (hbm : B.h0.BuiltinsAt B.mg P)
    {ds : List Int} {n : Nat} (hds : ∀ d ∈ ds, 0 ≤ d ∧ d < 2 ^ n) (hlen : ds.length ≤ 64) (hn : n ≤ 2 ^ 14) : OkCall B (L + 70) (.ref a) [.lst (ds.map D.int), .int n] (.int (val n ds)) := by
  have hll : (((ds.map D.int).length : Nat) : Int) < 2 ^ 63 := by rw [List.length_map]; omega
  refine d2i_ok (dx := "digits") (nx := "n") (Lx := "L") (Rx := "R") (nm := "inner") (q := 12) (kk := 9) (mm := 10) nv fc0 rfl rfl rfl rfl hbind hcode Ch hP hdn (by rw [hq]; rfl) hbm rfl rfl rfl (fun _ => rfl) rfl rfl (fun fa => by kernel_rfl) (fun fa => ?_) (fun fa => by kernel_rfl)
    rfl rfl rfl (fun doc pm c' ctv cl v w => by kernel_rfl) rfl hds hlen hn rfl rfl rfl (fun fa L R => by kernel_rfl) (fun fa L R => by kernel_rfl) (fun fa L R h0 h1 h2 => ?_)
  · refine each_cons rfl (by kernel_rfl) (each_cons rfl (evE_prim rfl rfl (each_cons rfl (by kernel_rfl) rfl) rfl rfl (len_D hll)) rfl)
  · refine ⟨put (put (bindPs (freeG (put (bindPs [] ["digits", "n"] [.lst (ds.map D.int), .int n]) "inner" (.ref fa)) (stScope dD2n).names) ["L", "R"] [.int L, .int R]) "mid" (.int ((L + R).fdiv (2 ^ 1)))) "shift" (.int (((L + R).fdiv (2 ^ 1) - L) * n)), ?_, by kernel_rfl, by kernel_rfl, by kernel_rfl, by kernel_rfl⟩
    rw [evSs_cons (evS_asg (d := .int ((L + R).fdiv (2 ^ 1))) rfl rfl rfl (by kernel_rfl)), evSs_cons (evS_asg (d := .int (((L + R).fdiv (2 ^ 1) - L) * n)) rfl rfl rfl (evE_bin (a := .int ((L + R).fdiv (2 ^ 1) - L)) (b := .int n) (by kernel_rfl) (by kernel_rfl) (mul_D (Nat.le_trans (intBits_nat (k := 15) (by omega)) (by decide)))))]
    rfl

noncomputable def ndig (x n : Nat) : Nat := (Builtin.Int.intBits (x : Int) + n - 1) / n
theorem ndig_ok {x n : Nat} (hn : 0 < n) : x < 2 ^ (n * ndig x n) := by
  refine Nat.lt_of_lt_of_le (lt_pow_bits x) (Nat.pow_le_pow_right (by decide) ?_)
  unfold ndig
  generalize Builtin.Int.intBits (x : Int) = b
  have h1 := Nat.div_add_mod (b + n - 1) n
  have h2 := Nat.mod_lt (b + n - 1) hn
  omega
theorem i2d_nat (nv : NvOk B L (nat0 C p1 p2)) {a c P : Addr} {fd : FuncData} (fc0 : FcAt B B.h0 a (stBody dI2d) (stScope dI2d) [] fd) (hbind : ∀ v w, bindArgs fd ⟨[v, w], []⟩ = pure [(Str.ofString "a", v), (Str.ofString "n", w)])
    (hcode : fd.code = .ref c) (Ch : CodeHd B.h0 c P) (hP : P ∈ B.tb) (hdn : B.dn P = (stPos dI2i, Str.ofString "_int2digits.<locals>.inner")) (hq : fd.qualname = "_int2digits") (hbm : B.h0.BuiltinsAt B.mg P)
    {x n : Nat} (h0n : 0 < n) (hN : ndig x n ≤ 64) (hn : n ≤ 2 ^ 14) : OkCall B (L + 70) (.ref a) [.int x, .int n] (.lst ((digs n (ndig x n) x).map D.int)) := by
  have hn9 : (n : Int).natAbs < 2 ^ 9000 := nat9 hn
  refine i2d_ok (ax := "a") (nx := "n") (an := "a_digits") (xx := "x") (Lx := "L") (Rx := "R") (nm := "inner") (q := 12) (kk := 9) (mm := 10) nv fc0 rfl rfl rfl rfl rfl hbind hcode Ch hP hdn (by rw [hq]; rfl) hbm rfl rfl rfl (fun _ => rfl) rfl rfl
    (ndig_ok h0n) hN hn (by kernel_rfl) ?_ (fun l fa => by kernel_rfl) (fun l fa zs hzs => ?_) (fun l fa => by kernel_rfl) (by decide)
    rfl rfl rfl rfl (fun doc pm c' ctv cl u v w => by kernel_rfl) rfl rfl rfl rfl (fun l fa x' L R => by kernel_rfl) (fun l fa x' L R => by kernel_rfl) (fun l fa x' L R => by kernel_rfl) (fun l fa x' L R => by kernel_rfl) (fun l fa x' L R h0 h1 h2 h3 h4 => ?_)
  · have e : (((Builtin.Int.intBits (x : Int) : Nat) : Int) + (n : Int) - 1).fdiv (n : Int) = ((ndig x n : Nat) : Int) := by
      rw [Int.fdiv_eq_ediv_of_nonneg _ (Int.natCast_nonneg _)]
      unfold ndig
      rw [show ((Builtin.Int.intBits (x : Int) : Nat) : Int) + (n : Int) - 1 = ((Builtin.Int.intBits (x : Int) + n - 1 : Nat) : Int) by omega, Int.natCast_ediv]
    rw [← e]
    exact evE_bin (a := .int (((Builtin.Int.intBits (x : Int) : Nat) : Int) + (n : Int) - 1)) (b := .int n) (by kernel_rfl) (by kernel_rfl) (fdv_D (by omega) hn9)
  · exact each_cons rfl (by kernel_rfl) (each_cons rfl (by kernel_rfl) (each_cons rfl (evE_prim rfl rfl (each_cons rfl (by kernel_rfl) rfl) rfl rfl (len_D (by omega))) rfl))
  · refine ⟨put (put (put (put (bindPs (freeG (put (put (bindPs [] ["a", "n"] [.int x, .int n]) "a_digits" (.ref l)) "inner" (.ref fa)) (stScope dI2i).names) ["x", "L", "R"] [.int x', .int L, .int R]) "mid" (.int ((L + R).fdiv (2 ^ 1)))) "shift" (.int (((L + R).fdiv (2 ^ 1) - L) * n)))
      "upper" (.int (x'.fdiv (2 ^ (((L + R).fdiv (2 ^ 1) - L) * n).toNat)))) "lower" (.int (Builtin.bitXor x' (x'.fdiv (2 ^ (((L + R).fdiv (2 ^ 1) - L) * n).toNat) * 2 ^ (((L + R).fdiv (2 ^ 1) - L) * n).toNat))), ?_, by kernel_rfl, by kernel_rfl, by kernel_rfl⟩
    rw [evSs_cons (evS_asg (d := .int ((L + R).fdiv (2 ^ 1))) rfl rfl rfl (by kernel_rfl)), evSs_cons (evS_asg (d := .int (((L + R).fdiv (2 ^ 1) - L) * n)) rfl rfl rfl (evE_bin (a := .int ((L + R).fdiv (2 ^ 1) - L)) (b := .int n) (by kernel_rfl) (by kernel_rfl) (mul_D (Nat.le_trans (intBits_nat (k := 15) (by omega)) (by decide))))),
      evSs_cons (evS_asg (d := .int (x'.fdiv (2 ^ (((L + R).fdiv (2 ^ 1) - L) * n).toNat))) rfl rfl rfl (evE_bin (a := .int x') (b := .int (((L + R).fdiv (2 ^ 1) - L) * n)) (by kernel_rfl) (by kernel_rfl) (shr_D h3))),
      evSs_cons (evS_asg (d := .int (Builtin.bitXor x' (x'.fdiv (2 ^ (((L + R).fdiv (2 ^ 1) - L) * n).toNat) * 2 ^ (((L + R).fdiv (2 ^ 1) - L) * n).toNat))) rfl rfl rfl (evE_bin (a := .int x') (b := .int (x'.fdiv (2 ^ (((L + R).fdiv (2 ^ 1) - L) * n).toNat) * 2 ^ (((L + R).fdiv (2 ^ 1) - L) * n).toNat)) (by kernel_rfl)
        (evE_bin (a := .int (x'.fdiv (2 ^ (((L + R).fdiv (2 ^ 1) - L) * n).toNat))) (b := .int (((L + R).fdiv (2 ^ 1) - L) * n)) (by kernel_rfl) (by kernel_rfl) (shl_D h3 h4)) rfl))]
    rfl
end
end Mine

end
section
open PySem PySem.W PyProof.Rows
set_option Elab.async false
set_option maxRecDepth 100000
namespace Mine

noncomputable def hB : List Stmt := clsOf "Headers" Pb
noncomputable def dConv : Stmt := defOf "_convert_string_type" hB
noncomputable def dInit : Stmt := defOf "__init__" hB
noncomputable def dGetAll : Stmt := defOf "get_all" hB

noncomputable def conv2 (C : Nat) (o : D) (ds : List D) (kd : D) : Option D := match hdrOf C o with
  | some _ => match sole strOf1 ds with
    | some x => match boolOf1 kd with
      | some _ => match Safe x with
        | true => some (.str x)
        | false => none
      | none => none
    | none => none
  | none => none
noncomputable def convK (C : Nat) : Str → D → List D → Str → D → Option D := fun m o ds kn kd => match strEq m "_convert_string_type" && strEq kn "name" with
  | true => conv2 C o ds kd
  | false => none
theorem conv2_inv {C : Nat} {o kd r : D} {ds : List D} (h : conv2 C o ds kd = some r) : ∃ xs x b, o = .hdr C xs ∧ ds = [.str x] ∧ kd = .bool b ∧ Safe x = true ∧ D.str x = r := by
  unfold conv2 at h
  split at h
  · rename_i h1
    split at h
    · rename_i h2
      split at h
      · rename_i h3
        split at h
        · rename_i hs
          obtain ⟨d, e, h2⟩ := sole_eq h2
          exact ⟨_, _, _, hdrOf_eq h1, e.trans (by rw [strOf1_eq h2]), boolOf1_eq h3, hs, Option.some.inj h⟩
        · exact nsd h
      · exact nsd h
    · exact nsd h
  · exact nsd h

theorem natM_search {p1 p2 p : Nat} {x : Str} (hp : p = p1 ∨ p = p2) (hs : Safe x = true) : natM p1 p2 "search" (.ref p) [.str x] = some .none := by
  have h : (Nat.beq p p1 || Nat.beq p p2) = true := by
    rw [Bool.or_eq_true]
    rcases hp with e | e
    · exact .inl (by rw [e]; exact Nat.beq_refl _)
    · exact .inr (by rw [e]; exact Nat.beq_refl _)
  show (match (Nat.beq p p1 || Nat.beq p p2) && Safe x with
    | true => some D.none
    | false => none) = _
  rw [h, hs]; rfl

section
variable {C p1 p2 : Nat}
theorem conv_run (d : D) {x : Str} (b : Bool) (hs : Safe x = true) :
    ∃ Γ, evSs (evS noHk (evE (nat0 C p1 p2) 12) 9 12) (stScope dConv).names (stBody dConv) (bindPs [] ["self", "value", "name"] [d, .str x, .bool b]) [] = some (.ret (.str x), Γ, []) := by
  cases b
  · refine ⟨put (bindPs [] ["self", "value", "name"] [d, .str x, .bool false]) "regex" (.ref p2), ?_⟩
    refine evSs_ret ?_
    refine (evS_IfH (c := true) rfl (testD_of (d := .bool true) (by kernel_rfl) rfl)).trans ?_
    refine (evSs_cons (evS_asg (d := .ref p2) rfl rfl rfl (by kernel_rfl))).trans ?_
    refine (evSs_cons (Γ1 := put (bindPs [] ["self", "value", "name"] [d, .str x, .bool false]) "regex" (.ref p2)) (Ω1 := []) ((evS_IfH (c := false) rfl (testD_of (d := .none) (evE_methX rfl rfl rfl rfl (d := .ref p2) (ds := [.str x]) (by kernel_rfl) (by kernel_rfl) (natM_search (.inr rfl) hs)) rfl)).trans rfl)).trans ?_
    exact evSs_ret (evS_RetH rfl (by kernel_rfl))
  · refine ⟨put (bindPs [] ["self", "value", "name"] [d, .str x, .bool true]) "regex" (.ref p1), ?_⟩
    refine evSs_ret ?_
    refine (evS_IfH (c := true) rfl (testD_of (d := .bool true) (by kernel_rfl) rfl)).trans ?_
    refine (evSs_cons (evS_asg (d := .ref p1) rfl rfl rfl (by kernel_rfl))).trans ?_
    refine (evSs_cons (Γ1 := put (bindPs [] ["self", "value", "name"] [d, .str x, .bool true]) "regex" (.ref p1)) (Ω1 := []) ((evS_IfH (c := false) rfl (testD_of (d := .none) (evE_methX rfl rfl rfl rfl (d := .ref p1) (ds := [.str x]) (by kernel_rfl) (by kernel_rfl) (natM_search (.inl rfl) hs)) rfl)).trans rfl)).trans ?_
    exact evSs_ret (evS_RetH rfl (by kernel_rfl))

variable {B : Bs} {K : Frag} {L : Nat}
structure ClsAt (B : Bs) (K : Frag) (C : Nat) (x : Str) (s : Stmt) (fd : FuncData) : Prop where
  ok : methOk K C x
  fc : FcAt B B.h0 (methA K C x) (stBody s) (stScope s) [] fd

noncomputable def X1 (C p1 p2 : Nat) : Nv := orMK (nat0 C p1 p2) (convK C)
theorem X1_ok (n0 : Nat0 B K C p1 p2) {fd : FuncData} (ca : ClsAt B K C "_convert_string_type" dConv fd) (hbind : ∀ o v b, bindArgs fd ⟨[o, v], [(Str.ofString "name", b)]⟩ = pure [(Str.ofString "self", o), (Str.ofString "value", v), (Str.ofString "name", b)]) : NvOk B (L + 1) (X1 C p1 p2) := by
  have nv0 : NvOk B L (nat0 C p1 p2) := nat0_ok n0
  refine orMK_ok (nv0.more (Nat.le_succ _)) fun m d ds kn kd r h => ?_
  unfold convK at h
  split at h
  · rename_i hm
    rw [Bool.and_eq_true] at hm
    obtain ⟨xs, x, b, rfl, rfl, rfl, hs, rfl⟩ := conv2_inv h
    obtain rfl := strEq_iff.mp hm.1
    obtain rfl := strEq_iff.mp hm.2
    obtain ⟨o, ho, hd⟩ := ca.fc.ob
    obtain ⟨h1, h2⟩ := methOk_of ca.ok
    refine ⟨_, o, fd, fun A G s E Q ov pl st rd hq => hdr_method n0.kb n0.hk h1 h2 (by decide) st rd hq, ho, ca.fc.nt, hd, fun A G s vs kv E Q rm st r rk hQ => ?_⟩
    obtain ⟨v, w, rfl, rv, rw'⟩ := r.two
    refine rk.boolK ?_
    obtain ⟨Γ, hrun⟩ := conv_run (C := C) (p1 := p1) (p2 := p2) (.hdr C xs) b hs
    exact run_fb (binds := [(Str.ofString "self", v), (Str.ofString "value", w), (Str.ofString "name", .bool b)]) (ds := [.hdr C xs, .str x, .bool b]) (ca.fc.st st) rfl rfl (fun A' E' Qb hq => by rw [hbind]; exact @wpAny_pure _ _ _ _ _ _ _ hq) (fun p hp => by
      rcases List.mem_cons.mp hp with e | hp
      · rw [e]; rfl
      rcases List.mem_cons.mp hp with e | hp
      · rw [e]; rfl
      rw [List.mem_singleton.mp hp]; rfl) st (.cons rv (.cons rw' (.cons (.bool b) .nil))) rm (evS_ok nv0 noHk_ok 12 9 12) hrun hQ
  · exact nsd h
end
end Mine

end
section
open PySem PySem.W PyProof.Rows
set_option Elab.async false
set_option maxRecDepth 100000
namespace Mine

noncomputable def pairOf (d : D) : Option (Str × Str) := (tupOf1 d).bind (two strOf1 strOf1)
theorem pairOf_eq {d : D} {p : Str × Str} (h : pairOf d = some p) : d = .tup [.str p.1, .str p.2] := by
  obtain ⟨xs, h1, h2⟩ := bnd h
  obtain ⟨x, y, e, h3, h4⟩ := two_eq h2
  rw [tupOf1_eq h1, e, strOf1_eq h3, strOf1_eq h4]
noncomputable def pairsOf : List D → Option (List (Str × Str))
  | [] => some []
  | x :: r => (pairOf x).bind fun p => (pairsOf r).map fun l => p :: l
noncomputable def pD (p : Str × Str) : D := .tup [.str p.1, .str p.2]
theorem pairsOf_map (ps : List (Str × Str)) : pairsOf (ps.map pD) = some ps := by
  induction ps with
  | nil => rfl
  | cons p ps ih =>
    show (pairsOf (ps.map pD)).map (fun l => p :: l) = _
    rw [ih]; rfl
theorem pairsOf_eq {xs : List D} {ps : List (Str × Str)} (h : pairsOf xs = some ps) : xs = ps.map pD := by
  induction xs generalizing ps with
  | nil => exact Option.some.inj h ▸ rfl
  | cons x xs ih =>
    obtain ⟨p, hp, h⟩ := bnd (f := fun p => (pairsOf xs).map fun l => p :: l) h
    obtain ⟨l, hl, h⟩ := map_inv h
    rw [← Option.some.inj h, ih hl, pairOf_eq hp]; rfl
noncomputable def dGet : Stmt := defOf "get" hB
noncomputable def low (x : Str) : Bool := Builtin.Str.tooLong (Txt.lower x).length
noncomputable def getO : List (Str × Str) → Str → Option Str
  | [], _ => none
  | p :: ps, name => cond (strEq (lowF p.1) (lowF name)) (some p.2) (getO ps name)
theorem getO_cons (p : Str × Str) (ps : List (Str × Str)) (name : Str) : getO (p :: ps) name = cond (Txt.lower p.1 == Txt.lower name) (some p.2) (getO ps name) := by
  rw [← lowF_eq, ← lowF_eq, ← strEq_eq]; rfl
noncomputable def oD : Option Str → D
  | some v => .str v
  | none => .none
noncomputable def getM (C : Nat) : Str → D → List D → Option D := fun m o ds => tst (strEq m "get") ((hdrOf C o).bind fun xs => (sole strOf1 ds).bind fun name => (pairsOf xs).bind fun ps => tst (Safe (Txt.lower name) && (!low name && ps.all (fun p => !low p.1))) (some (oD (getO ps name))))

section
variable {C p1 p2 : Nat}
theorem convK_ok {xs : List D} {x : Str} {b : Bool} (hs : Safe x = true) : (X1 C p1 p2).MK "_convert_string_type" (.hdr C xs) [.str x] "name" (.bool b) = some (.str x) := by
  show conv2 C (.hdr C xs) [.str x] (.bool b) = _
  unfold conv2
  rw [hdrOf_self]
  show (match Safe x with | true => some (D.str x) | false => none) = _
  rw [hs]
theorem natA_ok {xs : List D} : (X1 C p1 p2).A "_headers" (.hdr C xs) = some (.lst xs) := by
  show natA C "_headers" (.hdr C xs) = _
  unfold natA
  rw [hdrOf_self]; rfl
theorem low_D {x : Str} (h : low x = false) : methD .lower (.str x) [] = some (.str (Txt.lower x)) := by
  show (match Builtin.Str.tooLong (Txt.lower x).length with
    | true => none
    | false => some (D.str (Txt.lower x))) = _
  have : Builtin.Str.tooLong (Txt.lower x).length = false := h
  rw [this]

noncomputable def forT (s : Stmt) : Expr := tgt s
noncomputable def tstOf (s : Stmt) : Expr := asV s
noncomputable def getFor : Stmt := (stBody dGet).getD 1 (.Pass default)
noncomputable def getG0 (C : Nat) (ps : List (Str × Str)) (name : Str) : Gm := put (bindPs [] ["self", "name", "default"] [.hdr C (ps.map pD), .str name, .none]) "name" (.str (Txt.lower name))
noncomputable def getGk (C : Nat) (ps : List (Str × Str)) (name k v : Str) : Gm := put (put (getG0 C ps name) "k" (.str k)) "v" (.str v)
noncomputable def getFl : Option Str → Fl
  | some v => .ret (.str v)
  | none => .nxt
theorem get_turn {ps : List (Str × Str)} {name k v : Str} (h3 : low k = false) :
    evSs (evS noHk (evE (X1 C p1 p2) 12) 9 11) (stScope dGet).names (ifB getFor) (getGk C ps name k v) [] = some (cond (Txt.lower k == Txt.lower name) (.ret (.str v)) .nxt, getGk C ps name k v, []) := by
  have ht : evE (X1 C p1 p2) 12 (stScope dGet).names (getGk C ps name k v) (tstOf ((ifB getFor).getD 0 (.Pass default))) = some (.bool (Txt.lower k == Txt.lower name)) :=
    evE_cmp1 (a := .str (Txt.lower k)) (b := .str (Txt.lower name)) rfl (evE_meth (mn := "lower") rfl rfl rfl (d := .str k) (ds := []) (by kernel_rfl) rfl (low_D h3)) (by kernel_rfl) (by kernel_rfl)
  cases hc : Txt.lower k == Txt.lower name with
  | true =>
    rw [hc] at ht
    exact evSs_ret ((evS_IfH (c := true) rfl (testD_of ht rfl)).trans (evSs_ret (evS_RetH (d := .str v) rfl (by kernel_rfl))))
  | false =>
    rw [hc] at ht
    exact evSs_cons ((evS_IfH (c := false) rfl (testD_of ht rfl)).trans rfl)
theorem get_loop {ps : List (Str × Str)} {name : Str} : ∀ (qs : List (Str × Str)), (∀ p ∈ qs, low p.1 = false) → ∀ {Γ : Gm}, (Γ = getG0 C ps name ∨ ∃ k v, Γ = getGk C ps name k v) →
    ∃ Γ2, (Γ2 = getG0 C ps name ∨ ∃ k v, Γ2 = getGk C ps name k v) ∧ forD (stScope dGet).names (forT getFor) (evSs (evS noHk (evE (X1 C p1 p2) 12) 9 11) (stScope dGet).names (ifB getFor)) (qs.map pD) Γ [] = some (getFl (getO qs name), Γ2, [])
  | [], _, Γ, hΓ => ⟨Γ, hΓ, rfl⟩
  | p :: qs, h3, Γ, hΓ => by
    have hb : bindT (stScope dGet).names (forT getFor) (pD p) Γ = some (getGk C ps name p.1 p.2) := by
      rcases hΓ with rfl | ⟨k, v, rfl⟩
      · kernel_rfl
      · kernel_rfl
    have ht := get_turn (C := C) (p1 := p1) (p2 := p2) (ps := ps) (name := name) (k := p.1) (v := p.2) (h3 p List.mem_cons_self)
    rw [List.map_cons, getO_cons]
    show ∃ Γ2, _ ∧ (match bindT (stScope dGet).names (forT getFor) (pD p) Γ with
      | none => none
      | some Γ1 => match evSs (evS noHk (evE (X1 C p1 p2) 12) 9 11) (stScope dGet).names (ifB getFor) Γ1 [] with
        | none => none
        | some (fl, Γ2, Ω2) => match fl with
          | .nxt => forD (stScope dGet).names (forT getFor) (evSs (evS noHk (evE (X1 C p1 p2) 12) 9 11) (stScope dGet).names (ifB getFor)) (qs.map pD) Γ2 Ω2
          | .cnt => forD (stScope dGet).names (forT getFor) (evSs (evS noHk (evE (X1 C p1 p2) 12) 9 11) (stScope dGet).names (ifB getFor)) (qs.map pD) Γ2 Ω2
          | .brk => some (.nxt, Γ2, Ω2)
          | .ret d => some (.ret d, Γ2, Ω2)) = some (getFl (cond (Txt.lower p.1 == Txt.lower name) (some p.2) (getO qs name)), Γ2, [])
    rw [hb]; dsimp only; rw [ht]; dsimp only
    cases Txt.lower p.1 == Txt.lower name with
    | true => exact ⟨_, .inr ⟨_, _, rfl⟩, rfl⟩
    | false => exact get_loop qs (fun q hq => h3 q (List.mem_cons_of_mem _ hq)) (.inr ⟨_, _, rfl⟩)
theorem get_run {ps : List (Str × Str)} {name : Str} (h1 : Safe (Txt.lower name) = true) (h2 : low name = false) (h3 : ∀ p ∈ ps, low p.1 = false) :
    ∃ Γ, evSs (evS noHk (evE (X1 C p1 p2) 12) 9 12) (stScope dGet).names (stBody dGet) (bindPs [] ["self", "name", "default"] [.hdr C (ps.map pD), .str name, .none]) [] = some (.ret (oD (getO ps name)), Γ, []) := by
  obtain ⟨Γ2, hi, hl⟩ := get_loop (C := C) (p1 := p1) (p2 := p2) (ps := ps) (name := name) ps h3 (.inl rfl)
  refine ⟨Γ2, ?_⟩
  refine (evSs_cons (evS_asg (d := .str (Txt.lower name)) rfl rfl rfl (evE_methK rfl rfl rfl rfl (d := .hdr C (ps.map pD)) (ds := [.str (Txt.lower name)]) (kd := .bool true) (by kernel_rfl) (each_cons rfl (evE_meth (mn := "lower") rfl rfl rfl (d := .str name) (ds := []) (by kernel_rfl) rfl (low_D h2)) rfl) (by kernel_rfl) (convK_ok h1)))).trans ?_
  have hf : evS noHk (evE (X1 C p1 p2) 12) 9 12 (stScope dGet).names (getG0 C ps name) [] getFor = some (getFl (getO ps name), Γ2, []) :=
    (evS_ForH (d := .lst (ps.map pD)) (xs := ps.map pD) rfl rfl (evE_attr (d := .hdr C (ps.map pD)) (by kernel_rfl) natA_ok) rfl).trans hl
  cases hg : getO ps name with
  | some v =>
    rw [hg] at hf
    exact evSs_ret hf
  | none =>
    rw [hg] at hf
    refine (evSs_cons hf).trans (evSs_ret (evS_RetH (d := .none) rfl ?_))
    rcases hi with rfl | ⟨k, v, rfl⟩
    · kernel_rfl
    · kernel_rfl
end
end Mine

end
section
open PySem PySem.W PyProof.Rows
set_option Elab.async false
set_option maxRecDepth 100000
namespace Mine

theorem strEq_self (x : Str) : strEq x x = true := strEq_iff.mpr rfl
section
variable {B : Bs} {K : Frag} {L : Nat} {C p1 p2 : Nat}
noncomputable def X2 (C p1 p2 : Nat) : Nv := orM (X1 C p1 p2) (getM C)
theorem getM_inv {C : Nat} {m : Str} {d r : D} {ds : List D} (h : getM C m d ds = some r) : ∃ ps name, m = "get" ∧ d = .hdr C (ps.map pD) ∧ ds = [.str name] ∧ Safe (Txt.lower name) = true ∧ low name = false ∧ (∀ p ∈ ps, low p.1 = false) ∧ r = oD (getO ps name) := by
  obtain ⟨hm, h⟩ := tst_inv h
  obtain ⟨xs, hx, h⟩ := bnd h
  obtain ⟨name, hn, h⟩ := bnd h
  obtain ⟨ps, hps, h⟩ := bnd h
  obtain ⟨hg, h⟩ := tst_inv h
  obtain ⟨dn, e, hn⟩ := sole_eq hn
  have g1 := Bool.and_eq_true_iff.mp hg
  have g2 := Bool.and_eq_true_iff.mp g1.2
  exact ⟨ps, name, strEq_iff.mp hm, (hdrOf_eq hx).trans (congrArg (D.hdr C) (pairsOf_eq hps)), e.trans (by rw [strOf1_eq hn]), g1.1, bnot g2.1, fun p hp => bnot (List.all_eq_true.mp g2.2 p hp), (Option.some.inj h).symm⟩
theorem X2_ok (nv1 : NvOk B L (X1 C p1 p2)) (kb : KB B K) (hk : HdK K C) {fd : FuncData} (ca : ClsAt B K C "get" dGet fd) (hbind : ∀ u v (s : Shared), K.In s.heap → BindsTo s fd ⟨[u, v], []⟩ [(Str.ofString "self", u), (Str.ofString "name", v), (Str.ofString "default", .none)]) : NvOk B (L + 1) (X2 C p1 p2) := by
  refine orM_ok (nv1.more (Nat.le_succ _)) fun m d ds r h => ?_
  obtain ⟨ps, name, rfl, rfl, rfl, g1, g2, g3, rfl⟩ := getM_inv h
  obtain ⟨h1, h2⟩ := methOk_of ca.ok
  refine ⟨_, fun A G s E Q ov pl st rd hq => hdr_method kb hk h1 h2 (by decide) st rd hq, ca.fc.keep0, fun A G s vs E Q rm st r hQ => ?_⟩
  obtain ⟨v, w, rfl, rv, rw'⟩ := r.two
  obtain ⟨Γ, hrun⟩ := get_run (C := C) (p1 := p1) (p2 := p2) g1 g2 g3
  exact run_fb (binds := [(Str.ofString "self", v), (Str.ofString "name", w), (Str.ofString "default", .none)]) (ds := [.hdr C (ps.map pD), .str name, .none]) (ca.fc.st st) rfl rfl (fun A' E' Qb hq => hbind _ _ _ (kb.st st) _ A' E' Qb hq) (fun p hp => by
    rcases List.mem_cons.mp hp with e | hp
    · rw [e]; rfl
    rcases List.mem_cons.mp hp with e | hp
    · rw [e]; rfl
    rw [List.mem_singleton.mp hp]; rfl) st (.cons rv (.cons rw' (.cons .none .nil))) rm (evS_ok nv1 noHk_ok 12 9 12) hrun hQ

noncomputable def ini4 : Stmt := (stBody dInit).getD 3 (.Pass default)
noncomputable def for4 : Stmt := (ifB ini4).getD 0 (.Pass default)
noncomputable def tgt4 : Expr := forT for4
noncomputable def bdy4 : List Stmt := ifB for4
noncomputable def iniG (xs : List D) (C x l : Nat) : Gm := put (put (put (bindPs [] ["self", "headers"] [.ref x, .ref l]) "headers" (.ref l)) "headers" (.lst xs)) "self" (.hdr C xs)
theorem ini_run {ps : List (Str × Str)} (hs : ∀ p ∈ ps, Safe p.1 = true ∧ Safe p.2 = true) (x l : Nat) :
    ∃ Γ4, evSs (evS noHk (evE (X2 C p1 p2) 12) 9 (10 + 2)) (stScope dInit).names [ini4] (iniG (ps.map pD) C x l) [] = some (.nxt, Γ4, []) := by
  have key := forD_inv (sc := (stScope dInit).names) (t := tgt4) (body := evSs (evS noHk (evE (X2 C p1 p2) 12) 9 10) (stScope dInit).names bdy4) (f := pD)
    (fun _ Γ Ω => Ω = [] ∧ (Γ = iniG (ps.map pD) C x l ∨ ∃ p : Str × Str, Γ = put (put (iniG (ps.map pD) C x l) "k" (.str p.1)) "v" (.str p.2))) ps [] (iniG (ps.map pD) C x l) [] ⟨rfl, .inl rfl⟩ ?_
  · obtain ⟨Γ2, Ω2, h1, rfl, h2⟩ := key
    refine ⟨Γ2, ?_⟩
    refine (evSs_cons (Γ1 := Γ2) (Ω1 := []) ((evS_IfH (c := true) rfl (testD_of (d := .bool true) (by kernel_rfl) rfl)).trans ?_)).trans rfl
    refine (evSs_cons (Γ1 := Γ2) (Ω1 := []) ((evS_ForH (d := .lst (ps.map pD)) (xs := ps.map pD) rfl rfl (by kernel_rfl) rfl).trans h1)).trans rfl
  · rintro done p Γ Ω - ⟨rfl, hΓ⟩ hp
    obtain ⟨s1, s2⟩ := hs p hp
    have hΓ' : ∃ Γ1, bindT (stScope dInit).names tgt4 (pD p) Γ = some Γ1 ∧ Γ1 = put (put (iniG (ps.map pD) C x l) "k" (.str p.1)) "v" (.str p.2) := by
      rcases hΓ with rfl | ⟨q, rfl⟩
      · exact ⟨_, by kernel_rfl, rfl⟩
      · exact ⟨put (put (iniG (ps.map pD) C x l) "k" (.str p.1)) "v" (.str p.2), by kernel_rfl, rfl⟩
    obtain ⟨Γ1, hb, rfl⟩ := hΓ'
    refine ⟨_, put (put (iniG (ps.map pD) C x l) "k" (.str p.1)) "v" (.str p.2), [], hb, ?_, rfl, .inr ⟨p, rfl⟩⟩
    refine (evSs_cons (evS_dropK (d := .str p.1) (x := p.1) ?_ ?_ ?_)).trans ((evSs_cons (evS_dropK (d := .str p.2) (x := p.2) ?_ ?_ ?_)).trans rfl)
    · rfl
    · exact evE_methK rfl rfl rfl rfl (d := .hdr C (ps.map pD)) (ds := [.str p.1]) (kd := .bool true) (by kernel_rfl) (by kernel_rfl) (by kernel_rfl) (convK_ok (C := C) (p1 := p1) (p2 := p2) (xs := ps.map pD) (b := true) s1)
    · rfl
    · rfl
    · exact evE_methK rfl rfl rfl rfl (d := .hdr C (ps.map pD)) (ds := [.str p.2]) (kd := .bool false) (by kernel_rfl) (by kernel_rfl) (by kernel_rfl) (convK_ok (C := C) (p1 := p1) (p2 := p2) (xs := ps.map pD) (b := false) s2)
    · rfl

theorem keep_cls (kb : KB B K) (hk : HdK K C) : KeepOk B (.ref C) := fun A G s E Q st h => by
  have mk := makes_of (M := B.M) (kb.st st) hk.mks
  obtain ⟨oc, od, cd, sl, hC, _⟩ := mk.obj
  unfold keeperOf
  refine WP.bind ⟨@wpAny_load _ _ _ _ _ _ _ hC ?_⟩
  dsimp only
  refine WP.bind ⟨mk.call.at ?_⟩
  exact WP.pure (h _)

noncomputable abbrev X3 (C p1 p2 : Nat) : Nv := X2 C p1 p2
noncomputable def NewC (B : Bs) (L : Nat) (C : Addr) : Prop := ∀ {ps : List (Str × Str)}, (∀ p ∈ ps, Safe p.1 = true ∧ Safe p.2 = true) → ∀ {A : Around} {G : Gh} {s : Shared} {l : Nat} {items : Array Value} {n : Nat} {Q : Value → Shared → Prop} {E : Value → Shared → Prop}, Room (L + 2) A → St B G s → l ∉ G.O → LstAt s.heap l items n → RdL G s.heap items.toList (ps.map pD) →
  (∀ (a dx : Nat) G' s', Ke B G s G' s' → s.heap.objs.size ≤ a → s.heap.objs.size ≤ dx → a < s'.heap.objs.size → dx < s'.heap.objs.size → s'.heap.get? a = some ({ cls := .ref C, dict := some dx, data := .plain } : Obj) → dx ≠ a →
      s'.heap.Ns1 dx (fun x => if x = ("_headers" : Str) then some (.ref l) else none) → LstAt s'.heap l items n → RdL G' s'.heap items.toList (ps.map pD) → Q (.ref a) s') → WP B A (call (.ref C) [.ref l]) Q E s
theorem new_ok (nv2 : NvOk B L (X2 C p1 p2)) (kb : KB B K) (hk : HdK K C) {fd : FuncData} (ca : ClsAt B K C "__init__" dInit fd) (hbind : ∀ u v (s : Shared), K.In s.heap → BindsTo s fd ⟨[u, v], []⟩ [(Str.ofString "self", u), (Str.ofString "headers", v)]) : NewC B L C := fun hs _ _ _ _ _ _ _ _ rm st hlO hl hd hQ =>
  hdr_new (sn := "self") (hn := "headers") (q := 12) (kk := 9) (mm := 10) (Γ1 := fun x l => put (bindPs [] ["self", "headers"] [.ref x, .ref l]) "headers" (.ref l)) nv2 kb hk ca.fc rfl rfl rfl rfl (by decide) hbind (methOk_of ca.ok).1 (methOk_of ca.ok).2 rfl (fun x l => by kernel_rfl) (fun x l => by kernel_rfl) (fun x l => by kernel_rfl) (fun x l => by kernel_rfl) (fun x l => by kernel_rfl) (fun x l => by kernel_rfl) (fun x l => ini_run hs x l) rm st hlO hl hd hQ
end
end Mine

end
section
open PySem PySem.W PyProof.Rows
set_option Elab.async false
set_option maxRecDepth 100000
namespace Mine

noncomputable def atN (x : Str) (f : List D → Option D) : Str → List D → Option D := fun y ds => match strEq y x with
  | true => f ds
  | false => none
theorem atN_self (x : Str) (f : List D → Option D) (ds : List D) : atN x f x ds = f ds := by unfold atN; rw [strEq_self]
theorem orN_old {X : Nv} {f : Str → List D → Option D} {x : Str} {ds : List D} {d : D} (h : X.N x ds = some d) : (orN X f).N x ds = some d := by simp only [orN, h]
theorem orN_new {X : Nv} {f : List D → Option D} {x : Str} {ds : List D} {d : D} (h0 : X.N x ds = none) (h : f ds = some d) : (orN X (atN x f)).N x ds = some d := by simp only [orN, h0, atN_self, h]
noncomputable def GfAt (B : Bs) (x : Str) (F : Fn) : Prop := ∃ a, B.mg x = some (.ref a) ∧ FnAt B a F
theorem runF_ret {rec : Sv} {F : Fn} {ds : List D} {d : D} {Γ : Gm} {Ω : Om} (hl : (ds.length == F.ps.length) = true) (h : evSs rec F.scope.names F.body (bindPs [] F.ps ds) [] = some (.ret d, Γ, Ω)) : runF rec F ds = some d := by
  show tst (ds.length == F.ps.length) ((evSs rec F.scope.names F.body (bindPs [] F.ps ds) []).bind fun r => retF r.1) = _
  rw [hl, h]; rfl

section
variable {B : Bs} {L : Nat}
theorem orC_ok {X : Nv} {x : Str} {f : List D → Option D} (nv : NvOk B L X) (h : ∀ ds d, f ds = some d → NvN B L x ds d) : NvOk B L (orN X (atN x f)) :=
  orN_ok nv fun y ds d e => by
    unfold atN at e
    split at e
    · rename_i hy
      rw [strEq_iff.mp hy]; exact h ds d e
    · cases e
theorem orF_ok {X : Nv} {H : Hk} {x : Str} {F : Fn} {f : List D → Option D} {m k n : Nat} (nv : NvOk B L X) (hk : OkS B L H.S) (hf : GfAt B x F) (h : ∀ ds d, f ds = some d → runF (evS H (evE X m) k n) F ds = some d) : NvOk B (L + 1) (orN X (atN x f)) := by
  obtain ⟨a, hmg, fa⟩ := hf
  exact orC_ok (nv.more (Nat.le_succ _)) fun ds d e => ⟨_, hmg, fa.keep, fn_ok fa (evS_ok nv hk m k n) (h ds d e)⟩

noncomputable def i2dN : List D → Option D := fun ds => match two intOf1 intOf1 ds with
  | some p => match decide (0 ≤ p.1) && decide (0 < p.2) && decide (p.2 ≤ 16384) && Nat.ble (ndig p.1.toNat p.2.toNat) 64 with
    | true => some (.lst ((digs p.2.toNat (ndig p.1.toNat p.2.toNat) p.1.toNat).map D.int))
    | false => none
  | none => none
noncomputable def intsB (n : Nat) : List D → Option (List Int)
  | [] => some []
  | x :: r => match intOf1 x with
    | some i => match decide (0 ≤ i) && decide (i < 2 ^ n) with
      | true => match intsB n r with
        | some l => some (i :: l)
        | none => none
      | false => none
    | none => none
theorem intsB_map {n : Nat} : ∀ {l : List Int}, (∀ d ∈ l, 0 ≤ d ∧ d < 2 ^ n) → intsB n (l.map D.int) = some l
  | [], _ => rfl
  | i :: l, h => by
    show (match decide (0 ≤ i) && decide (i < 2 ^ n) with
      | true => match intsB n (l.map D.int) with
        | some l => some (i :: l)
        | none => none
      | false => none) = _
    rw [intsB_map fun d hd => h d (List.mem_cons_of_mem _ hd), decide_eq_true (h i List.mem_cons_self).1, decide_eq_true (h i List.mem_cons_self).2]; rfl
theorem intsB_eq {n : Nat} : ∀ {xs : List D} {l : List Int}, intsB n xs = some l → xs = l.map D.int ∧ ∀ d ∈ l, 0 ≤ d ∧ d < 2 ^ n
  | [], l, h => Option.some.inj h ▸ ⟨rfl, fun _ h => nomatch h⟩
  | x :: xs, l, h => by
    unfold intsB at h
    split at h
    · rename_i i hi
      split at h
      · rename_i hc
        split at h
        · rename_i l' h3
          obtain ⟨e1, e2⟩ := intsB_eq h3
          rw [← Option.some.inj h, intOf1_eq hi, e1]
          rw [Bool.and_eq_true] at hc
          exact ⟨rfl, fun d hd => (List.mem_cons.mp hd).elim (fun e => e ▸ ⟨of_decide_eq_true hc.1, of_decide_eq_true hc.2⟩) (e2 d)⟩
        · exact nsd h
      · exact nsd h
    · exact nsd h
noncomputable def d2iN : List D → Option D := fun ds => match two lstOf1 intOf1 ds with
  | some p => match decide (0 ≤ p.2) && decide (p.2 ≤ 16384) with
    | true => match intsB p.2.toNat p.1 with
      | some l => match Nat.ble l.length 64 with
        | true => some (.int (val p.2.toNat l))
        | false => none
      | none => none
    | false => none
  | none => none

variable {K : Frag} {C p1 p2 : Nat}
noncomputable def X4 (C p1 p2 : Nat) : Nv := orN (X3 C p1 p2) (atN "_int2digits" i2dN)
noncomputable def X5 (C p1 p2 : Nat) : Nv := orN (X4 C p1 p2) (atN "_digits2int" d2iN)
structure NestAt (B : Bs) (x : Str) (s i : Stmt) (qn : Str) (a c P : Addr) (fd : FuncData) : Prop where
  mg : B.mg x = some (.ref a)
  fc : FcAt B B.h0 a (stBody s) (stScope s) [] fd
  code : fd.code = .ref c
  ch : CodeHd B.h0 c P
  p : P ∈ B.tb
  dn : B.dn P = (stPos i, qn)
  q : fd.qualname = x
  bm : B.h0.BuiltinsAt B.mg P
theorem X4_ok (nv0 : NvOk B L (nat0 C p1 p2)) (nv3 : NvOk B (L + 70) (X3 C p1 p2)) {a c P : Addr} {fd : FuncData} (na : NestAt B "_int2digits" dI2d dI2i "_int2digits.<locals>.inner" a c P fd) (hbind : ∀ v w, bindArgs fd ⟨[v, w], []⟩ = pure [(Str.ofString "a", v), (Str.ofString "n", w)]) : NvOk B (L + 70) (X4 C p1 p2) := by
  refine orC_ok nv3 fun ds d h => ⟨_, na.mg, na.fc.keep0, ?_⟩
  unfold i2dN at h
  split at h
  · rename_i p hp
    obtain ⟨a, b, rfl, e1, e2⟩ := two_eq hp
    split at h
    · rename_i hc
      simp only [Bool.and_eq_true] at hc
      obtain ⟨⟨⟨h1, h2⟩, h3⟩, h4⟩ := hc
      have h1 := of_decide_eq_true h1
      have h2 := of_decide_eq_true h2
      have h3 := of_decide_eq_true h3
      have ex : ((p.1.toNat : Nat) : Int) = p.1 := Int.toNat_of_nonneg h1
      have en : ((p.2.toNat : Nat) : Int) = p.2 := Int.toNat_of_nonneg (Int.le_of_lt h2)
      have := i2d_nat nv0 na.fc hbind na.code na.ch na.p na.dn na.q na.bm (x := p.1.toNat) (n := p.2.toNat) (by omega) (Nat.le_of_ble_eq_true h4) (by omega)
      rw [ex, en] at this
      rw [intOf1_eq e1, intOf1_eq e2, ← Option.some.inj h]
      exact this
    · exact nsd h
  · exact nsd h
theorem X5_ok (nv0 : NvOk B L (nat0 C p1 p2)) (nv4 : NvOk B (L + 70) (X4 C p1 p2)) {a c P : Addr} {fd : FuncData} (na : NestAt B "_digits2int" dD2i dD2n "_digits2int.<locals>.inner" a c P fd) (hbind : ∀ v w, bindArgs fd ⟨[v, w], []⟩ = pure [(Str.ofString "digits", v), (Str.ofString "n", w)]) : NvOk B (L + 70) (X5 C p1 p2) := by
  refine orC_ok nv4 fun ds d h => ⟨_, na.mg, na.fc.keep0, ?_⟩
  unfold d2iN at h
  split at h
  · rename_i p hp
    obtain ⟨a, b, rfl, e1, e2⟩ := two_eq hp
    split at h
    · rename_i hc
      rw [Bool.and_eq_true] at hc
      split at h
      · rename_i l h3
        split at h
        · rename_i h4
          have h1 := of_decide_eq_true hc.1
          have h2 := of_decide_eq_true hc.2
          have en : ((p.2.toNat : Nat) : Int) = p.2 := Int.toNat_of_nonneg h1
          obtain ⟨e3, e4⟩ := intsB_eq h3
          have := d2i_nat nv0 na.fc hbind na.code na.ch na.p na.dn na.q na.bm (ds := l) (n := p.2.toNat) e4 (Nat.le_of_ble_eq_true h4) (by omega)
          rw [en, ← e3] at this
          rw [lstOf1_eq e1, intOf1_eq e2, ← Option.some.inj h]
          exact this
        · exact nsd h
      · exact nsd h
    · exact nsd h
  · exact nsd h

noncomputable def d2n1 : Stmt := defOf "_div2n1n" Pb
noncomputable def dvN : List D → Option D := fun ds => match three intOf1 intOf1 intOf1 ds with
  | some p => match decide (0 < p.2.1) && Nat.ble (Builtin.Int.intBits p.2.1) 4200 && decide ((Builtin.Int.intBits p.1 : Int) - p.2.2 ≤ 4000) with
    | true => some (.tup [.int (p.1.fdiv p.2.1), .int (p.1.fmod p.2.1)])
    | false => none
  | none => none
noncomputable def X6 (C p1 p2 : Nat) : Nv := orN (X5 C p1 p2) (atN "_div2n1n" dvN)
theorem bits9 {b : Int} (h0 : 0 < b) (h : Builtin.Int.intBits b ≤ 4200) : b.natAbs < 2 ^ 9000 := by
  have h1 := lt_pow_bits b.toNat
  rw [Int.toNat_of_nonneg (Int.le_of_lt h0)] at h1
  rw [show b.natAbs = b.toNat from Int.ofNat_inj.mp ((Int.natAbs_of_nonneg (Int.le_of_lt h0)).trans (Int.toNat_of_nonneg (Int.le_of_lt h0)).symm)]
  exact Nat.lt_of_lt_of_le h1 (Nat.pow_le_pow_right (by decide) (Nat.le_trans h (by decide)))
theorem X6_ok (nv5 : NvOk B L (X5 C p1 p2)) (hf : GfAt B "_div2n1n" (fnOf d2n1)) : NvOk B (L + 1) (X6 C p1 p2) := by
  refine orF_ok (H := noHk) (m := 12) (k := 9) (n := 12) nv5 noHk_ok hf fun ds d h => ?_
  unfold dvN at h
  split at h
  · rename_i p hp
    obtain ⟨da, db, dn, rfl, e1, e2, e3⟩ := three_eq hp
    obtain ⟨a, b, n⟩ := p
    rw [intOf1_eq e1, intOf1_eq e2, intOf1_eq e3]
    split at h
    · rename_i hc
      simp only [Bool.and_eq_true] at hc
      obtain ⟨⟨h1, h2⟩, h3⟩ := hc
      rw [← Option.some.inj h]
      have h1 := of_decide_eq_true h1
      refine runF_ret (Γ := bindPs [] ["a", "b", "n"] [.int a, .int b, .int n]) (Ω := []) rfl ?_
      refine evSs_ret ?_
      refine (evS_IfH (c := true) rfl (testD_of (d := .bool (decide ((Builtin.Int.intBits a : Int) - n ≤ 4000))) (by kernel_rfl) (by show some (decide _) = _; rw [h3]))).trans ?_
      refine evSs_ret (evS_RetH rfl ?_)
      exact evE_prim rfl rfl (each_cons (d := .int a) rfl (by kernel_rfl) (each_cons (d := .int b) (ds := []) rfl (by kernel_rfl) rfl)) (by kernel_rfl) (pr := (.divmod, .builtin "divmod")) (by kernel_rfl) (dvm_D (by omega) (bits9 h1 (Nat.le_of_ble_eq_true h2)))
    · exact nsd h
  · exact nsd h
end
end Mine

end
section
open PySem PySem.W PyProof.Rows
set_option Elab.async false
set_option maxRecDepth 100000
set_option exponentiation.threshold 10000
namespace Mine

section
variable {H : Hk} {ev : Kd → Gm → Expr → Option D} {k m : Nat} {sc : Kd} {Γ Γ1 : Gm} {Ω Ω1 : Om}
theorem evS_hook {st : Stmt} {r : Rs} (h : H.S sc Γ Ω st = some r) : evS H ev k (m + 1) sc Γ Ω st = some r := by
  show (match H.S sc Γ Ω st with
    | some r => some r
    | none => _) = _
  rw [h]
theorem evS_asgE {x : Str} {px p : Pos} {v : Expr} {d : D} (hH : H.S sc Γ Ω (.Assign [.Name x px] v p) = none) (hx : storable sc x = true) (hl : isLst v = false) (h : evF (ev sc) Γ Ω v = some (d, Γ1, Ω1)) : evS H ev k (m + 1) sc Γ Ω (.Assign [.Name x px] v p) = some (.nxt, put Γ1 x d, del Ω1 x) := by
  show (match H.S sc Γ Ω (.Assign [.Name x px] v p) with
    | some r => some r
    | none => assignD ev sc Γ Ω (.Name x px) v) = _
  rw [hH]; dsimp only
  unfold assignD; dsimp only
  rw [hx]; dsimp only; rw [hl]; dsimp only; rw [h]
theorem evF_frz {f : Gm → Expr → Option D} {e : Expr} {d : D} {x : Str × OD} {Ω' : Om} (h0 : f Γ e = none) (h : f (frz Γ (x :: Ω')) e = some d) : evF f Γ (x :: Ω') e = some (d, frz Γ (x :: Ω'), []) := by
  unfold evF; rw [h0]; dsimp only; rw [h]
theorem evS_app {x mn : Str} {px apos cpos p : Pos} {e : Expr} {ds : List D} {d : D} (hH : H.S sc Γ Ω (.Expr (.Call (.Attribute (.Name x px) mn apos) [e] [] cpos) p) = none) (hm : strEq mn "append" = true) (hd : strEq x "__debug__" = false) (hc : strEq x "__classdict__" = false)
    (hl : (apos.endLine == cpos.line) = true) (hs : isStar e = false) (hx : storable sc x = true) (hq : look Ω x = some (.lst ds)) (h : ev sc Γ e = some d) (hn : Nat.ble ds.length 900 = true) :
    evS H ev k (m + 1) sc Γ Ω (.Expr (.Call (.Attribute (.Name x px) mn apos) [e] [] cpos) p) = some (.nxt, Γ, putA Ω x (.lst (ds ++ [d]))) := by
  show (match H.S sc Γ Ω (.Expr (.Call (.Attribute (.Name x px) mn apos) [e] [] cpos) p) with
    | some r => some r
    | none => appendD (ev sc) sc Γ Ω x mn apos cpos e) = _
  rw [hH]; dsimp only
  show tst (strEq mn "append" && (!strEq x "__debug__" && (!strEq x "__classdict__" && ((apos.endLine == cpos.line) && (!isStar e && storable sc x))))) ((look Ω x).bind fun o => (lstO o).bind fun ds => (ev sc Γ e).bind fun d => tst (Nat.ble ds.length 900) (some (Fl.nxt, Γ, putA Ω x (OD.lst (ds ++ [d]))))) = _
  rw [hm, hd, hc, hl, hs, hx, hq]
  show ((ev sc Γ e).bind fun d => tst (Nat.ble ds.length 900) (some (Fl.nxt, Γ, putA Ω x (OD.lst (ds ++ [d]))))) = _
  rw [h]
  show tst (Nat.ble ds.length 900) _ = _
  rw [hn]; rfl
theorem forD_pre {α : Type} {t : Expr} {body : Gm → Om → Option Rs} {f : α → D} (I : List α → Gm → Om → Prop) (l : List α) (hs : ∀ done x rest Γ Ω, done ++ x :: rest = l → I done Γ Ω → ∃ Γ1 Γ2 Ω2, bindT sc t (f x) Γ = some Γ1 ∧ body Γ1 (delT Ω t) = some (.nxt, Γ2, Ω2) ∧ I (done ++ [x]) Γ2 Ω2) : ∀ (r done : List α) (Γ : Gm) (Ω : Om), done ++ r = l → I done Γ Ω →
    ∃ Γ2 Ω2, forD sc t body (r.map f) Γ Ω = some (.nxt, Γ2, Ω2) ∧ I l Γ2 Ω2
  | [], done, Γ, Ω, e, h => ⟨Γ, Ω, rfl, by rw [List.append_nil] at e; rw [← e]; exact h⟩
  | x :: r, done, Γ, Ω, e, h => by
    obtain ⟨Γ1, Γ2, Ω2, h1, h2, h3⟩ := hs done x r Γ Ω e h
    obtain ⟨Γ3, Ω3, h4, h5⟩ := forD_pre I l hs r (done ++ [x]) Γ2 Ω2 (by rw [List.append_assoc]; exact e) h3
    refine ⟨Γ3, Ω3, ?_, h5⟩
    rw [List.map_cons]
    show (match bindT sc t (f x) Γ with
    | none => none
    | some Γ1 => match body Γ1 (delT Ω t) with
      | none => none
      | some (fl, Γ2, Ω2) => match fl with
        | .nxt => forD sc t body (r.map f) Γ2 Ω2
        | .cnt => forD sc t body (r.map f) Γ2 Ω2
        | .brk => some (.nxt, Γ2, Ω2)
        | .ret d => some (.ret d, Γ2, Ω2)) = _
    rw [h1]; dsimp only; rw [h2]; exact h4
end

theorem digs_val (n : Nat) : ∀ (k x : Nat), val n (digs n k x) = ((x % 2 ^ (n * k) : Nat) : Int)
  | 0, x => by simp [digs, val, Nat.mod_one]
  | k + 1, x => by
    show ((x % 2 ^ n : Nat) : Int) + val n (digs n k (x / 2 ^ n)) * 2 ^ n = _
    rw [digs_val n k, Nat.mul_succ, Nat.add_comm (n * k) n, Nat.pow_add, Nat.mod_mul]
    push_cast
    rw [Int.mul_comm (2 ^ n)]
theorem digs_bound (n : Nat) : ∀ (k x : Nat), ∀ d ∈ digs n k x, 0 ≤ d ∧ d < 2 ^ n
  | 0, _, d, h => nomatch h
  | k + 1, x, d, h => by
    rcases List.mem_cons.mp h with rfl | h
    · have : x % 2 ^ n < 2 ^ n := Nat.mod_lt _ (Nat.two_pow_pos n)
      refine ⟨Int.natCast_nonneg _, ?_⟩
      have := Int.ofNat_lt.mpr this
      simpa using this
    · exact digs_bound n k _ d h
noncomputable def dDmp : Stmt := defOf "_divmod_pos" Pb
noncomputable def dmF : Stmt := (stBody dDmp).getD 4 (.Pass default)
noncomputable def dmB : List Stmt := ifB dmF
noncomputable def dmSc : Kd := (fnOf dDmp).scope.names
noncomputable def dmG (a b n r : Int) (xs : List D) : Gm := put (put (put (bindPs [] ["a", "b"] [.int a, .int b]) "n" (.int n)) "a_digits" (.lst xs)) "r" (.int r)
theorem dm_step {b n v d : Int} (hb : 0 < b) : (d + v * 2 ^ n.toNat) / b = ((v % b) * 2 ^ n.toNat + d) / b + (v / b) * 2 ^ n.toNat ∧ (d + v * 2 ^ n.toNat) % b = ((v % b) * 2 ^ n.toNat + d) % b := by
  have e : d + v * 2 ^ n.toNat = ((v % b) * 2 ^ n.toNat + d) + b * ((v / b) * 2 ^ n.toNat) := by
    have h := Int.emod_add_mul_ediv v b
    generalize v % b = r at h ⊢
    generalize v / b = q at h ⊢
    rw [← h, Int.add_mul, Int.mul_assoc]
    generalize r * 2 ^ n.toNat = x
    generalize b * (q * 2 ^ n.toNat) = y
    omega
  rw [e, Int.add_mul_ediv_left _ _ (by omega), Int.add_mul_emod_self_left]
  exact ⟨rfl, rfl⟩

theorem revFor_eq {X : Nv} {q : Nat} {rec : Sv} {sc : Kd} {Γ : Gm} {Ω : Om} {t : Expr} {x : Str} {e : Expr} {b : List Stmt} {xs : List D} (hx : strEq x "reversed" = true) (hd : strEq x "__debug__" = false) (hs : isStar e = false) (hk : kc (look sc x) = .glo) (he : evE X q sc Γ e = some (.lst xs)) :
    revFor X q rec sc Γ Ω t x e b = forD sc t (evSs rec sc b) xs.reverse Γ Ω := by
  show tst (strEq x "reversed" && (!strEq x "__debug__" && (!isStar e && decide (kc (look sc x) = .glo)))) ((evE X q sc Γ e).bind fun d => (lstOf1 d).bind fun xs => forD sc t (evSs rec sc b) xs.reverse Γ Ω) = _
  rw [hx, hd, hs, hk, he]; rfl
theorem reverseD_eq {sc : Kd} {Γ : Gm} {Ω : Om} {x m : Str} {apos cpos : Pos} {ds : List D} (hm : strEq m "reverse" = true) (hd : strEq x "__debug__" = false) (hc : strEq x "__classdict__" = false) (hl : (apos.endLine == cpos.line) = true) (hx : storable sc x = true) (hq : look Ω x = some (.lst ds)) (hn : Nat.ble ds.length 1000 = true) :
    reverseD sc Γ Ω x m apos cpos = some (.nxt, Γ, putA Ω x (.lst ds.reverse)) := by
  show tst (strEq m "reverse" && (!strEq x "__debug__" && (!strEq x "__classdict__" && ((apos.endLine == cpos.line) && storable sc x)))) ((look Ω x).bind fun o => (lstO o).bind fun ds => tst (Nat.ble ds.length 1000) (some (Fl.nxt, Γ, putA Ω x (OD.lst ds.reverse)))) = _
  rw [hm, hd, hc, hl, hx, hq]
  show tst (Nat.ble ds.length 1000) _ = _
  rw [hn]; rfl
theorem hkRev_rev {X : Nv} {q k m : Nat} {sc : Kd} {Γ : Gm} {Ω : Om} {x mn : Str} {px apos cpos p : Pos} : (hkRev X q k m).S sc Γ Ω (.Expr (.Call (.Attribute (.Name x px) mn apos) [] [] cpos) p) = reverseD sc Γ Ω x mn apos cpos := rfl
inductive DmInv (a b n N : Nat) (done : List Int) (Γ : Gm) (Ω : Om) : Prop
  | mk (qs : List Int) (r : Int) (hO : Ω = [(Str.ofString "q_digits", OD.lst (qs.map D.int))]) (hql : qs.length = done.length) (hqb : ∀ q ∈ qs, 0 ≤ q ∧ q < 2 ^ n) (hqv : val n qs.reverse = val n done.reverse / b) (h0v : 0 ≤ val n done.reverse) (hr : r = val n done.reverse % b)
    (hG : Γ = dmG a b n r ((digs n N a).map D.int) ∨ ∃ d q : Int, Γ = put (put (dmG a b n r ((digs n N a).map D.int)) "a_digit" (.int d)) "q_digit" (.int q)) : DmInv a b n N done Γ Ω
theorem dm_run {X : Nv} {a b n N : Nat} (hb : 0 < b) (hbn : b < 2 ^ n) (hn : n ≤ 2 ^ 14) (ha : a < 2 ^ (n * N)) (hN : N ≤ 64) (hbits : Builtin.Int.intBits (b : Int) = n)
    (h1 : X.N "_int2digits" [.int a, .int n] = some (.lst ((digs n N a).map D.int)))
    (h2 : ∀ t : Int, 0 ≤ t → t < 2 ^ n * b → X.N "_div2n1n" [.int t, .int b, .int n] = some (.tup [.int (t / b), .int (t % b)]))
    (h3 : ∀ qs : List Int, (∀ q ∈ qs, 0 ≤ q ∧ q < 2 ^ n) → qs.length = N → X.N "_digits2int" [.lst (qs.map D.int), .int n] = some (.int (val n qs))) :
    runF (evS (hkRev X 12 9 10) (evE X 12) 9 12) (fnOf dDmp) [.int a, .int b] = some (.tup [.int ((a : Int) / b), .int ((a : Int) % b)]) := by
  have hb' : (0 : Int) < b := Int.natCast_pos.mpr hb
  have hbn' : (b : Int) < 2 ^ n := by have := Int.ofNat_lt.mpr hbn; simpa using this
  have loop := forD_pre (sc := dmSc) (t := forT dmF) (body := evSs (evS noHk (evE X 12) 9 10) dmSc dmB) (f := D.int)
    (DmInv a b n N)
    (digs n N a).reverse ?_ (digs n N a).reverse [] (dmG a b n 0 ((digs n N a).map D.int)) [(Str.ofString "q_digits", OD.lst [])] rfl ⟨[], 0, rfl, rfl, (fun _ h => nomatch h), by simp [val], by simp [val], by simp [val], .inl rfl⟩
  · obtain ⟨Γ2, Ω2, l1, ⟨qs, r, rfl, hql, hqb, hqv, h0v, hr, hΓ⟩⟩ := loop
    have hval : val n (digs n N a) = (a : Int) := by rw [digs_val, Nat.mod_eq_of_lt ha]
    simp only [List.reverse_reverse, hval] at hqv hr h0v hql
    rw [List.map_reverse] at l1
    rw [List.length_reverse, digs_len] at hql
    refine runF_ret (Γ := put (frz Γ2 [(Str.ofString "q_digits", OD.lst (qs.map D.int).reverse)]) "q" (.int ((a : Int) / b))) (Ω := []) rfl ?_
    refine (evSs_cons (evS_asg (d := .int n) rfl rfl rfl (by rw [← hbits]; kernel_rfl))).trans ?_
    refine (evSs_cons (evS_asg (d := .lst ((digs n N a).map D.int)) rfl rfl rfl (evE_call rfl rfl (each_cons (d := .int a) rfl (by kernel_rfl) (each_cons (d := .int n) (ds := []) rfl (by kernel_rfl) rfl)) h1))).trans ?_
    refine (evSs_cons (evS_asg (d := .int 0) rfl rfl rfl (by kernel_rfl))).trans ?_
    refine (evSs_cons (evS_own (ds := []) rfl rfl rfl (by kernel_rfl))).trans ?_
    have hfor : evS (hkRev X 12 9 10) (evE X 12) 9 12 dmSc (dmG a b n 0 ((digs n N a).map D.int)) [(Str.ofString "q_digits", OD.lst [])] dmF = some (.nxt, Γ2, [(Str.ofString "q_digits", OD.lst (qs.map D.int))]) := by
      refine evS_hook ?_
      show revFor X 12 (evS noHk (evE X 12) 9 10) dmSc (dmG a b n 0 ((digs n N a).map D.int)) [(Str.ofString "q_digits", OD.lst [])] (forT dmF) "reversed" (argE 0 (asV dmF)) dmB = _
      exact (revFor_eq rfl rfl rfl rfl (by kernel_rfl)).trans l1
    refine (evSs_cons (Γ1 := Γ2) (Ω1 := [(Str.ofString "q_digits", OD.lst (qs.map D.int))]) hfor).trans ?_
    refine (evSs_cons (evS_hook (hkRev_rev.trans (reverseD_eq (ds := qs.map D.int) rfl rfl rfl rfl rfl rfl (by rw [List.length_map]; exact Nat.ble_eq_true_of_le (by omega)))))).trans ?_
    have e3 := h3 qs.reverse (fun q hq => hqb q (List.mem_reverse.mp hq)) (by rw [List.length_reverse]; exact hql)
    rw [List.map_reverse, hqv] at e3
    clear hqv h0v hql hqb hval l1 hfor
    rcases hΓ with rfl | ⟨d, q, rfl⟩
    · refine (evSs_cons (evS_asgE (d := .int ((a : Int) / b)) rfl rfl rfl (evF_frz (by kernel_rfl) (evE_call rfl rfl (each_cons (d := .lst (qs.map D.int).reverse) rfl (by kernel_rfl) (each_cons (d := .int n) (ds := []) rfl (by kernel_rfl) rfl)) e3)))).trans ?_
      exact evSs_ret (evS_RetH rfl (by rw [← hr]; kernel_rfl))
    · refine (evSs_cons (evS_asgE (d := .int ((a : Int) / b)) rfl rfl rfl (evF_frz (by kernel_rfl) (evE_call rfl rfl (each_cons (d := .lst (qs.map D.int).reverse) rfl (by kernel_rfl) (each_cons (d := .int n) (ds := []) rfl (by kernel_rfl) rfl)) e3)))).trans ?_
      exact evSs_ret (evS_RetH rfl (by rw [← hr]; kernel_rfl))
  · rintro done d rest Γ Ω hdr ⟨qs, r, rfl, hql, hqb, hqv, h0v, hr, hΓ⟩
    have hd : d ∈ (digs n N a).reverse := by rw [← hdr]; exact List.mem_append_right _ List.mem_cons_self
    have hlq : Nat.ble (qs.map D.int).length 900 = true := by
      have := congrArg List.length hdr
      rw [List.length_append, List.length_reverse, digs_len, List.length_cons] at this
      rw [List.length_map]
      exact Nat.ble_eq_true_of_le (by omega)
    have hdb := digs_bound n N a d (List.mem_reverse.mp hd)
    have hr0 : 0 ≤ r := by rw [hr]; exact Int.emod_nonneg _ (by omega)
    have hrb : r < b := by rw [hr]; exact Int.emod_lt_of_pos _ hb'
    have hΓ' : ∃ Γ1, bindT dmSc (forT dmF) (.int d) Γ = some Γ1 ∧ (Γ1 = put (dmG a b n r ((digs n N a).map D.int)) "a_digit" (.int d) ∨ ∃ q, Γ1 = put (put (dmG a b n r ((digs n N a).map D.int)) "a_digit" (.int d)) "q_digit" (.int q)) := by
      rcases hΓ with rfl | ⟨d', q, rfl⟩
      · exact ⟨_, by kernel_rfl, .inl rfl⟩
      · exact ⟨put (put (dmG a b n r ((digs n N a).map D.int)) "a_digit" (.int d)) "q_digit" (.int q), by kernel_rfl, .inr ⟨q, rfl⟩⟩
    obtain ⟨Γ1, hbd, hΓ1⟩ := hΓ'
    have hpn : (0 : Int) < 2 ^ n := Int.pow_pos (by decide)
    have ht0 : 0 ≤ r * 2 ^ n + d := Int.add_nonneg (Int.mul_nonneg hr0 (Int.le_of_lt hpn)) hdb.1
    have htb : r * 2 ^ n + d < 2 ^ n * b := by
      have h5 : (r + 1) * 2 ^ n ≤ b * 2 ^ n := Int.mul_le_mul_of_nonneg_right (by omega) (Int.le_of_lt hpn)
      rw [Int.add_mul, Int.one_mul] at h5
      rw [Int.mul_comm (2 ^ n)]
      have := hdb.2
      generalize b * (2 : Int) ^ n = z at *
      generalize r * (2 : Int) ^ n = y at *
      omega
    have e2 := h2 _ ht0 htb
    have st := dm_step (b := (b : Int)) (n := (n : Int)) (v := val n done.reverse) (d := d) hb'
    rw [Int.toNat_natCast] at st
    have hshl : binop .LShift (.int r) (.int n) = some (.int (r * 2 ^ n)) := by
      have := shl_D (a := r) (n := (n : Int)) (Int.natCast_nonneg _) (by
        have : Builtin.Int.intBits r ≤ n := intBits_le hr0 (Int.lt_trans hrb hbn')
        omega)
      rwa [Int.toNat_natCast] at this
    have hbody : evSs (evS noHk (evE X 12) 9 10) dmSc dmB Γ1 (delT [(Str.ofString "q_digits", OD.lst (qs.map D.int))] (forT dmF)) = some (.nxt, put (put (dmG a b n ((r * 2 ^ n + d) % b) ((digs n N a).map D.int)) "a_digit" (.int d)) "q_digit" (.int ((r * 2 ^ n + d) / b)), [(Str.ofString "q_digits", OD.lst (qs.map D.int ++ [.int ((r * 2 ^ n + d) / b)]))]) := by
      rcases hΓ1 with rfl | ⟨q, rfl⟩
      · refine (evSs_cons (evS_tup (Γ1 := put (put (dmG a b n ((r * 2 ^ n + d) % b) ((digs n N a).map D.int)) "a_digit" (.int d)) "q_digit" (.int ((r * 2 ^ n + d) / b))) rfl rfl (evE_call rfl rfl (each_cons (d := .int (r * 2 ^ n + d)) rfl (evE_bin (a := .int (r * 2 ^ n)) (b := .int d) (evE_bin (a := .int r) (b := .int n) (by kernel_rfl) (by kernel_rfl) hshl) (by kernel_rfl) rfl) (each_cons (d := .int b) rfl (by kernel_rfl) (each_cons (d := .int n) (ds := []) rfl (by kernel_rfl) rfl))) e2) (by kernel_rfl))).trans ?_
        exact (evSs_cons (evS_app (ds := qs.map D.int) (d := .int ((r * 2 ^ n + d) / b)) rfl rfl rfl rfl rfl rfl rfl rfl (by kernel_rfl) hlq)).trans rfl
      · refine (evSs_cons (evS_tup (Γ1 := put (put (dmG a b n ((r * 2 ^ n + d) % b) ((digs n N a).map D.int)) "a_digit" (.int d)) "q_digit" (.int ((r * 2 ^ n + d) / b))) rfl rfl (evE_call rfl rfl (each_cons (d := .int (r * 2 ^ n + d)) rfl (evE_bin (a := .int (r * 2 ^ n)) (b := .int d) (evE_bin (a := .int r) (b := .int n) (by kernel_rfl) (by kernel_rfl) hshl) (by kernel_rfl) rfl) (each_cons (d := .int b) rfl (by kernel_rfl) (each_cons (d := .int n) (ds := []) rfl (by kernel_rfl) rfl))) e2) (by kernel_rfl))).trans ?_
        exact (evSs_cons (evS_app (ds := qs.map D.int) (d := .int ((r * 2 ^ n + d) / b)) rfl rfl rfl rfl rfl rfl rfl rfl (by kernel_rfl) hlq)).trans rfl
    refine ⟨Γ1, _, _, hbd, hbody, ⟨qs ++ [(r * 2 ^ n + d) / b], _, by rw [List.map_append]; rfl, by rw [List.length_append, List.length_append, hql]; rfl, ?_, ?_, ?_, ?_, .inr ⟨_, _, rfl⟩⟩⟩
    · intro q hq
      rcases List.mem_append.mp hq with hq | hq
      · exact hqb q hq
      · rw [List.mem_singleton.mp hq]
        exact ⟨Int.ediv_nonneg ht0 (Int.le_of_lt hb'), Int.ediv_lt_of_lt_mul hb' htb⟩
    · rw [List.reverse_append, List.reverse_append]
      show (r * 2 ^ n + d) / b + val n qs.reverse * 2 ^ n = (d + val n done.reverse * 2 ^ n) / b
      rw [st.1, hqv, hr]
    · rw [List.reverse_append]
      show 0 ≤ d + val n done.reverse * 2 ^ n
      exact Int.add_nonneg hdb.1 (Int.mul_nonneg h0v (Int.le_of_lt hpn))
    · rw [List.reverse_append]
      show (r * 2 ^ n + d) % b = (d + val n done.reverse * 2 ^ n) % b
      rw [st.2, hr]
end Mine

end
section
open PySem PySem.W PyProof.Rows
set_option Elab.async false
set_option maxRecDepth 100000
namespace Mine

structure Bz (A b q r : Int) : Prop where
  e : A = q * b + r
  lt : r < b
  ge : -(2 * b) ≤ r
theorem Bz.next {A b q r : Int} (z : Bz A b q r) (h : r < 0) : A = (q - 1) * b + (r + b) ∧ r + b < b := by
  refine ⟨?_, by omega⟩
  rw [z.e, Int.sub_mul, Int.one_mul]; omega
theorem bz_end {A b q r : Int} (e : A = q * b + r) (h0 : 0 ≤ r) (h1 : r < b) : A / b = q ∧ A % b = r :=
  (Int.ediv_emod_unique (Int.lt_of_le_of_lt h0 h1)).mpr ⟨by rw [e, Int.mul_comm, Int.add_comm], h0, h1⟩
theorem bz_eq {a12 a3 b1 b2 q r P : Int} (e : q * b1 + r = a12) : a12 * P + a3 = q * (b1 * P + b2) + (r * P + a3 - q * b2) := by
  rw [← e, Int.add_mul, Int.mul_add, Int.mul_assoc]; omega
theorem bz_ge {q b1 b2 P r a3 : Int} (hq0 : 0 ≤ q) (hq : q ≤ P) (h2 : 0 ≤ b2) (h2' : b2 ≤ P) (hP : P ≤ 2 * b1) (hr : 0 ≤ r) (h3 : 0 ≤ a3) (hP0 : 0 ≤ P) : -(2 * (b1 * P + b2)) ≤ r * P + a3 - q * b2 := by
  have x1 : q * b2 ≤ P * b2 := Int.mul_le_mul_of_nonneg_right hq h2
  have x2 : P * b2 ≤ P * P := Int.mul_le_mul_of_nonneg_left h2' hP0
  have x3 : P * P ≤ 2 * b1 * P := Int.mul_le_mul_of_nonneg_right hP hP0
  have x4 : 0 ≤ r * P := Int.mul_nonneg hr hP0
  rw [Int.mul_assoc] at x3
  generalize q * b2 = u at *
  generalize P * b2 = v at *
  generalize P * P = w at *
  generalize b1 * P = y at *
  generalize r * P = z at *
  clear hq0 hq h2' hP hr
  omega
theorem bz_div {a12 a3 b1 b2 P : Int} (hP : P ≤ 2 * b1) (h1 : 0 < b1) (h2 : 0 ≤ b2) (h2' : b2 < P) (h3 : 0 ≤ a3) (h3' : a3 < P) (h0 : 0 ≤ a12) (hlt : a12 < b1 * P) :
    Bz (a12 * P + a3) (b1 * P + b2) (a12 / b1) (a12 % b1 * P + a3 - a12 / b1 * b2) := by
  have hP0 : 0 ≤ P := Int.le_trans h2 (Int.le_of_lt h2')
  have hq0 : 0 ≤ a12 / b1 := Int.ediv_nonneg h0 (Int.le_of_lt h1)
  have hq : a12 / b1 < P := Int.ediv_lt_of_lt_mul h1 (by rwa [Int.mul_comm])
  have hr0 := Int.emod_nonneg a12 (Int.ne_of_gt h1)
  have hr := Int.emod_lt_of_pos a12 h1
  refine ⟨bz_eq (by rw [Int.mul_comm, Int.mul_ediv_add_emod]), ?_, bz_ge hq0 (Int.le_of_lt hq) h2 (Int.le_of_lt h2') hP hr0 h3 hP0⟩
  have x1 : (a12 % b1 + 1) * P ≤ b1 * P := Int.mul_le_mul_of_nonneg_right (by omega) hP0
  have x2 : 0 ≤ a12 / b1 * b2 := Int.mul_nonneg hq0 h2
  rw [Int.add_mul, Int.one_mul] at x1
  generalize a12 / b1 * b2 = u at *
  generalize b1 * P = y at *
  generalize a12 % b1 * P = z at *
  clear hlt hq hq0 hr hr0 h0 hP
  omega
theorem bz_top {a12 a3 b1 b2 P : Int} (hP : P ≤ 2 * b1) (h1 : 0 < b1) (h2 : 0 ≤ b2) (h2' : b2 < P) (h3 : 0 ≤ a3) (h3' : a3 < P) (h0 : b1 * P ≤ a12) (hlt : a12 < b1 * P + b2) :
    Bz (a12 * P + a3) (b1 * P + b2) (P - 1) ((a12 - b1 * P + b1) * P + a3 - (P - 1) * b2) := by
  have hP0 : 0 ≤ P := Int.le_trans h2 (Int.le_of_lt h2')
  refine ⟨bz_eq (by rw [Int.sub_mul, Int.one_mul, Int.mul_comm P b1]; omega), ?_, bz_ge (by omega) (by omega) h2 (Int.le_of_lt h2') hP (by omega) h3 hP0⟩
  have x1 : (a12 - b1 * P + b1 + 1) * P ≤ (b1 + b2) * P := Int.mul_le_mul_of_nonneg_right (by omega) hP0
  rw [Int.add_mul (a12 - b1 * P + b1), Int.one_mul, Int.add_mul b1 b2] at x1
  rw [Int.sub_mul P 1 b2, Int.one_mul, Int.mul_comm P b2]
  generalize (a12 - b1 * P + b1) * P = z at *
  generalize b2 * P = u at *
  generalize b1 * P = y at *
  clear hlt h0 hP
  omega
end Mine

end
section
open PySem PySem.W PyProof.Rows
set_option Elab.async false
set_option maxRecDepth 100000
namespace Mine

theorem band_nat (x y : Nat) : Builtin.bitAnd (x : Int) (y : Int) = ((x &&& y : Nat) : Int) := by
  unfold Builtin.bitAnd
  have h1 : decide ((0 : Int) ≤ (x : Int)) = true := decide_eq_true (Int.natCast_nonneg _)
  have h2 : decide ((0 : Int) ≤ (y : Int)) = true := decide_eq_true (Int.natCast_nonneg _)
  rw [h1, h2]; rfl
theorem band_mask (x k : Nat) : Builtin.bitAnd (x : Int) (2 ^ k - 1) = ((x % 2 ^ k : Nat) : Int) := by
  have e : ((2 : Int) ^ k - 1) = ((2 ^ k - 1 : Nat) : Int) := by
    rw [Int.natCast_sub (Nat.two_pow_pos k)]; simp
  rw [e, band_nat, Nat.and_two_pow_sub_one_eq_mod]
theorem bor_nat (x y : Nat) : Builtin.bitOr (x : Int) (y : Int) = ((x ||| y : Nat) : Int) := by
  unfold Builtin.bitOr Builtin.bitAnd Builtin.bitNot
  have h1 : decide ((0 : Int) ≤ -(x : Int) - 1) = false := decide_eq_false (by omega)
  have h2 : decide ((0 : Int) ≤ -(y : Int) - 1) = false := decide_eq_false (by omega)
  rw [h1, h2]
  dsimp only
  rw [show -(-(x : Int) - 1) - 1 = x by omega, show -(-(y : Int) - 1) - 1 = y by omega, Int.toNat_natCast, Int.toNat_natCast]
  omega
theorem bor_add (a : Nat) {c k : Nat} (h : c < 2 ^ k) : Builtin.bitOr ((a : Int) * 2 ^ k) (c : Int) = (a : Int) * 2 ^ k + c := by
  have e : (a : Int) * 2 ^ k = ((2 ^ k * a : Nat) : Int) := by rw [Int.natCast_mul, Int.mul_comm]; simp
  rw [e, bor_nat, ← Nat.two_pow_add_eq_or_of_lt h]; rfl

section
variable {H : Hk} {ev : Kd → Gm → Expr → Option D} {k m : Nat} {sc : Kd} {Γ Γ1 Γ2 : Gm} {Ω Ω1 Ω2 : Om}
theorem evS_swap {ts vs : List Expr} {c c' : Nat} {tp vp p : Pos} {x y : Str} {d1 d2 : D} (hH : H.S sc Γ Ω (.Assign [.Tuple ts c tp] (.Tuple vs c' vp) p) = none) (hn : swapOk sc ts vs = some (x, y)) (h : ev sc Γ (.Tuple vs c' vp) = some (.tup [d1, d2])) (e : put (put Γ y d2) x d1 = Γ1) :
    evS H ev k (m + 1) sc Γ Ω (.Assign [.Tuple ts c tp] (.Tuple vs c' vp) p) = some (.nxt, Γ1, del (del Ω y) x) := by
  show (match H.S sc Γ Ω (.Assign [.Tuple ts c tp] (.Tuple vs c' vp) p) with
    | some r => some r
    | none => (swapOk sc ts vs).bind fun n => (evF (ev sc) Γ Ω (.Tuple vs c' vp)).bind fun p => ((tupOf1 p.1).bind duo).bind fun d => some (.nxt, put (put p.2.1 n.2 d.2) n.1 d.1, del (del p.2.2 n.2) n.1)) = _
  rw [hH, hn, evF_of h, ← e]; rfl
theorem evS_while {t : Expr} {b : List Stmt} {p : Pos} (hH : H.S sc Γ Ω (.While t b [] p) = none) : evS H ev k (m + 1) sc Γ Ω (.While t b [] p) = whileD (ev sc) t (evSs (evS H ev k m) sc b) k Γ Ω := by
  show (match H.S sc Γ Ω (.While t b [] p) with
    | some r => some r
    | none => whileD (ev sc) t (evSs (evS H ev k m) sc b) k Γ Ω) = _
  rw [hH]
theorem while_end {f : Gm → Expr → Option D} {t : Expr} {body : Gm → Om → Option Rs} {n : Nat} (h : testD f Γ Ω t = some (false, Γ1, Ω1)) : whileD f t body (n + 1) Γ Ω = some (.nxt, Γ1, Ω1) := by
  unfold whileD; rw [h]
theorem while_more {f : Gm → Expr → Option D} {t : Expr} {body : Gm → Om → Option Rs} {n : Nat} (h : testD f Γ Ω t = some (true, Γ1, Ω1)) (hb : body Γ1 Ω1 = some (.nxt, Γ2, Ω2)) : whileD f t body (n + 1) Γ Ω = whileD f t body n Γ2 Ω2 := by
  rw [whileD.eq_def]; dsimp only; rw [h]; dsimp only; rw [hb]
end
end Mine

end
section
open PySem PySem.W PyProof.Rows
set_option Elab.async false
set_option maxRecDepth 100000
namespace Mine

theorem mul_big {a b : Int} {n : Nat} (ha : Builtin.Int.intBits a ≤ n) (hb : Builtin.Int.intBits b ≤ n) (hn : n ≤ 2 ^ 20) : binop .Mult (.int a) (.int b) = some (.int (a * b)) := by
  refine if_neg ?_
  intro q
  simp only [Bool.and_eq_true, decide_eq_true_eq] at q
  have h := q.2
  unfold Builtin.Int.intTooBig at h
  have := of_decide_eq_true h
  have e : bitsLine = 2 ^ 27 := rfl
  omega

noncomputable def d3n : Stmt := defOf "_div3n2n" Pb
noncomputable def tstW (s : Stmt) : Expr := asV s
noncomputable def ifW (s : Stmt) : List Stmt := ifB s
noncomputable def d3S : Kd := (fnOf d3n).scope.names
noncomputable def d3R : List Stmt := (stBody d3n).tail
noncomputable def d3W : Stmt := d3R.getD 1 (.Pass default)
section
variable {X : Nv} {a12 a3 b1 b2 b : Int} {n : Nat}
noncomputable def d3G (a12 a3 b b1 b2 : Int) (n : Nat) (c : Bool) (q r : Int) : Gm := cond c (put (put (bindPs [] ["a12", "a3", "b", "b1", "b2", "n"] [.int a12, .int a3, .int b, .int b1, .int b2, .int n]) "r" (.int r)) "q" (.int q))
  (put (put (bindPs [] ["a12", "a3", "b", "b1", "b2", "n"] [.int a12, .int a3, .int b, .int b1, .int b2, .int n]) "q" (.int q)) "r" (.int r))
theorem d3_test (c : Bool) (q r : Int) : testD (evE X 12 d3S) (d3G a12 a3 b b1 b2 n c q r) [] (tstW d3W) = some (decide (r < 0), d3G a12 a3 b b1 b2 n c q r, []) := by
  cases c
  · exact testD_of (d := .bool (decide (r < 0))) (by kernel_rfl) rfl
  · exact testD_of (d := .bool (decide (r < 0))) (by kernel_rfl) rfl
theorem d3_turn (c : Bool) (q r : Int) : evSs (evS noHk (evE X 12) 9 11) d3S (ifW d3W) (d3G a12 a3 b b1 b2 n c q r) [] = some (.nxt, d3G a12 a3 b b1 b2 n c (q - 1) (r + b), []) := by
  cases c
  · kernel_rfl
  · kernel_rfl
theorem d3_while (c : Bool) {A q r : Int} (z : Bz A b q r) (hb : 0 < b) : evS noHk (evE X 12) 9 12 d3S (d3G a12 a3 b b1 b2 n c q r) [] d3W = some (.nxt, d3G a12 a3 b b1 b2 n c (A / b) (A % b), []) := by
  refine (evS_while rfl).trans ?_
  by_cases h : r < 0
  · obtain ⟨e1, l1⟩ := z.next h
    refine (while_more ((d3_test c q r).trans (by rw [decide_eq_true h])) (d3_turn c q r)).trans ?_
    by_cases h2 : r + b < 0
    · have e2 : A = (q - 1 - 1) * b + (r + b + b) := by rw [e1, Int.sub_mul (q - 1), Int.one_mul]; omega
      have g2 := z.ge
      refine (while_more ((d3_test c (q - 1) (r + b)).trans (by rw [decide_eq_true h2])) (d3_turn c (q - 1) (r + b))).trans ?_
      refine (while_end ((d3_test c (q - 1 - 1) (r + b + b)).trans (by rw [decide_eq_false (by omega)]))).trans ?_
      obtain ⟨x, y⟩ := bz_end e2 (by omega) (by omega)
      rw [x, y]
    · refine (while_end ((d3_test c (q - 1) (r + b)).trans (by rw [decide_eq_false h2]))).trans ?_
      obtain ⟨x, y⟩ := bz_end e1 (by omega) l1
      rw [x, y]
  · refine (while_end ((d3_test c q r).trans (by rw [decide_eq_false h]))).trans ?_
    obtain ⟨x, y⟩ := bz_end z.e (by omega) z.lt
    rw [x, y]
end
end Mine

end
section
open PySem PySem.W PyProof.Rows
set_option Elab.async false
set_option maxRecDepth 100000
namespace Mine

section
variable {X : Nv} {a12 a3 b1 b2 b : Int} {n : Nat}
theorem d3_mid (c : Bool) {q : Int} {r : Nat} (hn : n ≤ 2 ^ 13) (h3 : 0 ≤ a3) (h3' : a3 < 2 ^ n) (hr : Builtin.Int.intBits (r : Int) ≤ 2 ^ 15) (hq : Builtin.Int.intBits q ≤ n) (h2 : Builtin.Int.intBits b2 ≤ n) :
    evS noHk (evE X 12) 9 12 d3S (d3G a12 a3 b b1 b2 n c q r) [] (d3R.getD 0 (.Pass default)) = some (.nxt, d3G a12 a3 b b1 b2 n c q ((r : Int) * 2 ^ n + a3 - q * b2), []) := by
  obtain ⟨a, rfl⟩ := Int.eq_ofNat_of_zero_le h3
  have ha : a < 2 ^ n := by have : ((a : Nat) : Int) < ((2 ^ n : Nat) : Int) := by simpa using h3'
                            exact Int.ofNat_lt.mp this
  have hs : binop .LShift (.int r) (.int n) = some (.int (r * 2 ^ n)) := shl_D (a := r) (n := (n : Int)) (Int.natCast_nonneg _) (by omega)
  have ho : binop .BitOr (.int (r * 2 ^ n)) (.int a) = some (.int ((r : Int) * 2 ^ n + (a : Int))) := congrArg (fun x => some (D.int x)) (bor_add r ha)
  have hm := mul_big hq h2 (Nat.le_trans hn (by decide))
  cases c
  · refine (evS_asg (d := .int ((r : Int) * 2 ^ n + a - q * b2)) rfl rfl rfl (evE_bin (a := .int ((r : Int) * 2 ^ n + a)) (b := .int (q * b2)) (evE_bin (a := .int ((r : Int) * 2 ^ n)) (b := .int a) (evE_bin (a := .int r) (b := .int n) (by kernel_rfl) (by kernel_rfl) hs) (by kernel_rfl) ho) (evE_bin (a := .int q) (b := .int b2) (by kernel_rfl) (by kernel_rfl) hm) rfl)).trans ?_
    kernel_rfl
  · refine (evS_asg (d := .int ((r : Int) * 2 ^ n + a - q * b2)) rfl rfl rfl (evE_bin (a := .int ((r : Int) * 2 ^ n + a)) (b := .int (q * b2)) (evE_bin (a := .int ((r : Int) * 2 ^ n)) (b := .int a) (evE_bin (a := .int r) (b := .int n) (by kernel_rfl) (by kernel_rfl) hs) (by kernel_rfl) ho) (evE_bin (a := .int q) (b := .int b2) (by kernel_rfl) (by kernel_rfl) hm) rfl)).trans ?_
    kernel_rfl
theorem d3_rest (c : Bool) {A q : Int} {r : Nat} (hn : n ≤ 2 ^ 13) (h3 : 0 ≤ a3) (h3' : a3 < 2 ^ n) (hr : Builtin.Int.intBits (r : Int) ≤ 2 ^ 15) (hq : Builtin.Int.intBits q ≤ n) (h2 : Builtin.Int.intBits b2 ≤ n) (hb : 0 < b)
    (z : Bz A b q ((r : Int) * 2 ^ n + a3 - q * b2)) : evSs (evS noHk (evE X 12) 9 12) d3S d3R (d3G a12 a3 b b1 b2 n c q r) [] = some (.ret (.tup [.int (A / b), .int (A % b)]), d3G a12 a3 b b1 b2 n c (A / b) (A % b), []) := by
  refine (evSs_cons (d3_mid c hn h3 h3' hr hq h2)).trans ?_
  refine (evSs_cons (d3_while c z hb)).trans ?_
  refine evSs_ret (evS_RetH rfl ?_)
  cases c
  · kernel_rfl
  · kernel_rfl
noncomputable def d3I : Stmt := (stBody d3n).getD 0 (.Pass default)
noncomputable def d3Z (a12 a3 b b1 b2 : Int) (n : Nat) : Gm := bindPs [] ["a12", "a3", "b", "b1", "b2", "n"] [.int a12, .int a3, .int b, .int b1, .int b2, .int n]
theorem d3_if : testD (evE X 12 d3S) (d3Z a12 a3 b b1 b2 n) [] (tstOf d3I) = some (decide (a12.fdiv (2 ^ n) = b1), d3Z a12 a3 b b1 b2 n, []) :=
  testD_of (d := .bool (decide (a12.fdiv (2 ^ n) = b1))) (evE_cmp1 (a := .int (a12.fdiv (2 ^ n))) (b := .int b1) rfl (evE_bin (a := .int a12) (b := .int n) (by kernel_rfl) (by kernel_rfl) (shr_D (Int.natCast_nonneg _))) (by kernel_rfl) rfl) rfl
theorem bits_1 : Builtin.Int.intBits 1 = 1 := by decide
theorem pow_i (n : Nat) : (0 : Int) < 2 ^ n := Int.pow_pos (by decide)
theorem d3_run (hn : n ≤ 2 ^ 13) (hb1 : 0 < b1) (hP : (2 : Int) ^ n ≤ 2 * b1) (h1' : b1 < 2 ^ n) (h2 : 0 ≤ b2) (h2' : b2 < 2 ^ n) (h3 : 0 ≤ a3) (h3' : a3 < 2 ^ n) (h0 : 0 ≤ a12) (hlt : a12 < b1 * 2 ^ n + b2)
    (hX : a12 < b1 * 2 ^ n → X.N "_div2n1n" [.int a12, .int b1, .int n] = some (.tup [.int (a12 / b1), .int (a12 % b1)])) :
    runF (evS noHk (evE X 12) 9 12) (fnOf d3n) [.int a12, .int a3, .int (b1 * 2 ^ n + b2), .int b1, .int b2, .int n] = some (.tup [.int ((a12 * 2 ^ n + a3) / (b1 * 2 ^ n + b2)), .int ((a12 * 2 ^ n + a3) % (b1 * 2 ^ n + b2))]) := by
  have hP0 := pow_i n
  have hy : 0 < b1 * 2 ^ n := Int.mul_pos hb1 hP0
  have hb : 0 < b1 * 2 ^ n + b2 := by omega
  have b2b : Builtin.Int.intBits b2 ≤ n := intBits_le h2 h2'
  have hw : b1 * 2 ^ n ≤ 2 ^ n * 2 ^ n := Int.mul_le_mul_of_nonneg_right (Int.le_of_lt h1') (Int.le_of_lt hP0)
  rw [← Int.pow_add] at hw
  have hp1 : (2 : Int) ^ n ≤ 2 ^ (n + n) := by
    have := Nat.pow_le_pow_right (n := 2) (by decide) (Nat.le_add_left n n)
    have := Int.ofNat_le.mpr this
    simpa using this
  have hpp : (2 : Int) ^ (n + n + 2) = 2 ^ (n + n) * 4 := by rw [Int.pow_add]; rfl
  by_cases he : a12.fdiv (2 ^ n) = b1
  · have hle : b1 * 2 ^ n ≤ a12 := by
      rw [Int.fdiv_eq_ediv_of_nonneg _ (Int.le_of_lt hP0)] at he
      rw [← he]; exact Int.ediv_mul_le _ (Int.ne_of_gt hP0)
    obtain ⟨r, hr⟩ := Int.eq_ofNat_of_zero_le (show 0 ≤ a12 - b1 * 2 ^ n + b1 by omega)
    have z := bz_top hP hb1 h2 h2' h3 h3' hle hlt
    rw [hr] at z
    have hrb : Builtin.Int.intBits (r : Int) ≤ 2 ^ 15 := Nat.le_trans (intBits_le (k := n + n + 2) (Int.natCast_nonneg r) (by rw [hpp, ← hr]; omega)) (by omega)
    have hqb : Builtin.Int.intBits ((2 : Int) ^ n - 1) ≤ n := intBits_le (by omega) (by omega)
    refine runF_ret (Γ := d3G a12 a3 (b1 * 2 ^ n + b2) b1 b2 n true ((a12 * 2 ^ n + a3) / (b1 * 2 ^ n + b2)) ((a12 * 2 ^ n + a3) % (b1 * 2 ^ n + b2))) (Ω := []) rfl ?_
    refine (evSs_cons (Γ1 := d3G a12 a3 (b1 * 2 ^ n + b2) b1 b2 n true (2 ^ n - 1) r) (Ω1 := []) ((evS_IfH (c := true) rfl (d3_if.trans (by rw [decide_eq_true he]))).trans ?_)).trans (d3_rest true hn h3 h3' hrb hqb b2b hb z)
    refine (evSs_cons (evS_swap (d1 := .int (1 * 2 ^ n - 1)) (d2 := .int (a12 - b1 * 2 ^ n + b1)) (x := "q") (y := "r") rfl (by kernel_rfl) (evE_tup (each_cons rfl ?_ (each_cons (ds := []) rfl ?_ rfl)) rfl) rfl)).trans ?_
    · exact evE_bin (a := .int (1 * 2 ^ n)) (b := .int 1) (evE_bin (a := .int 1) (b := .int n) (by kernel_rfl) (by kernel_rfl) (shl_D (Int.natCast_nonneg _) (by rw [bits_1]; omega))) (by kernel_rfl) rfl
    · refine evE_bin (a := .int (a12 - b1 * 2 ^ n)) (b := .int b1) (evE_bin (a := .int a12) (b := .int (b1 * 2 ^ n)) (by kernel_rfl) (evE_bin (a := .int b1) (b := .int n) (by kernel_rfl) (by kernel_rfl) (shl_D (Int.natCast_nonneg _) ?_)) rfl) (by kernel_rfl) rfl
      have := intBits_le (Int.le_of_lt hb1) h1'
      omega
    · rw [Int.one_mul, hr]
      kernel_rfl
  · have hl : a12 < b1 * 2 ^ n := by
      rw [Int.fdiv_eq_ediv_of_nonneg _ (Int.le_of_lt hP0)] at he
      have h4 : a12 / 2 ^ n < b1 + 1 := (Int.ediv_lt_iff_lt_mul hP0).mpr (by rw [Int.add_mul, Int.one_mul]; omega)
      exact (Int.ediv_lt_iff_lt_mul hP0).mp (by omega)
    have hr0 := Int.emod_nonneg a12 (Int.ne_of_gt hb1)
    have hr1 := Int.emod_lt_of_pos a12 hb1
    have z := bz_div hP hb1 h2 h2' h3 h3' h0 hl
    have hqb : Builtin.Int.intBits (a12 / b1) ≤ n := intBits_le (Int.ediv_nonneg h0 (Int.le_of_lt hb1)) (Int.ediv_lt_of_lt_mul hb1 (by rwa [Int.mul_comm]))
    have e2 := hX hl
    generalize a12 / b1 = q at *
    obtain ⟨r, hr⟩ := Int.eq_ofNat_of_zero_le hr0
    rw [hr] at z e2 hr1
    have hrb : Builtin.Int.intBits (r : Int) ≤ 2 ^ 15 := Nat.le_trans (intBits_le (k := n) (Int.natCast_nonneg r) (by omega)) (by omega)
    refine runF_ret (Γ := d3G a12 a3 (b1 * 2 ^ n + b2) b1 b2 n false ((a12 * 2 ^ n + a3) / (b1 * 2 ^ n + b2)) ((a12 * 2 ^ n + a3) % (b1 * 2 ^ n + b2))) (Ω := []) rfl ?_
    refine (evSs_cons (Γ1 := d3G a12 a3 (b1 * 2 ^ n + b2) b1 b2 n false q r) (Ω1 := []) ((evS_IfH (c := false) rfl (d3_if.trans (by rw [decide_eq_false he]))).trans ?_)).trans (d3_rest false hn h3 h3' hrb hqb b2b hb z)
    exact (evSs_cons (evS_tup (Γ1 := d3G a12 a3 (b1 * 2 ^ n + b2) b1 b2 n false q r) rfl rfl (evE_call rfl rfl (each_cons (d := .int a12) rfl (by kernel_rfl) (each_cons (d := .int b1) rfl (by kernel_rfl) (each_cons (d := .int n) (ds := []) rfl (by kernel_rfl) rfl))) e2) (by kernel_rfl))).trans rfl
end
end Mine

end
section
open PySem PySem.W PyProof.Rows
set_option Elab.async false
set_option maxRecDepth 100000
namespace Mine

noncomputable def ifN (P : List D → Prop) (v : List D → D) (ds : List D) : Option D := @ite _ (P ds) (Classical.propDecidable _) (some (v ds)) none
theorem ifN_eq {P : List D → Prop} {v : List D → D} {ds : List D} (h : P ds) : ifN P v ds = some (v ds) := if_pos h
theorem ifN_inv {P : List D → Prop} {v : List D → D} {ds : List D} {d : D} (h : ifN P v ds = some d) : P ds ∧ v ds = d := by
  unfold ifN at h
  by_cases hp : P ds
  · rw [if_pos hp] at h; exact ⟨hp, Option.some.inj h⟩
  · rw [if_neg hp] at h; exact nsd h
noncomputable def iAt (ds : List D) (k : Nat) : Int := (intOf1 (ds.getD k .none)).getD 0
inductive D3C : List D → Prop
  | mk {a12 a3 b1 b2 : Int} {n : Nat} (hn : n ≤ 2 ^ 12) (hb1 : 0 < b1) (hP : (2 : Int) ^ n ≤ 2 * b1) (h1' : b1 < 2 ^ n) (h2 : 0 ≤ b2) (h2' : b2 < 2 ^ n) (h3 : 0 ≤ a3) (h3' : a3 < 2 ^ n) (h0 : 0 ≤ a12) (hlt : a12 < b1 * 2 ^ n + b2) (hs : n ≤ 4000) :
      D3C [.int a12, .int a3, .int (b1 * 2 ^ n + b2), .int b1, .int b2, .int n]
noncomputable def d3V (ds : List D) : D := .tup [.int ((iAt ds 0 * 2 ^ (iAt ds 5).toNat + iAt ds 1) / iAt ds 2), .int ((iAt ds 0 * 2 ^ (iAt ds 5).toNat + iAt ds 1) % iAt ds 2)]
noncomputable def d3N : List D → Option D := ifN D3C d3V
theorem dvN_big {t b n : Int} (hb : 0 < b) (h1 : Builtin.Int.intBits b ≤ 4200) (h2 : (Builtin.Int.intBits t : Int) - n ≤ 4000) : dvN [.int t, .int b, .int n] = some (.tup [.int (t / b), .int (t % b)]) := by
  show (match decide (0 < b) && Nat.ble (Builtin.Int.intBits b) 4200 && decide ((Builtin.Int.intBits t : Int) - n ≤ 4000) with
    | true => some (D.tup [.int (t.fdiv b), .int (t.fmod b)])
    | false => none) = _
  rw [decide_eq_true hb, Nat.ble_eq_true_of_le h1, decide_eq_true h2]
  show some (D.tup [.int (t.fdiv b), .int (t.fmod b)]) = _
  rw [Int.fdiv_eq_ediv_of_nonneg _ (Int.le_of_lt hb), Int.fmod_eq_emod_of_nonneg _ (Int.le_of_lt hb)]
theorem dvN_not {t b n : Int} (h2 : ¬ (Builtin.Int.intBits t : Int) - n ≤ 4000) : dvN [.int t, .int b, .int n] = none := by
  show (match decide (0 < b) && Nat.ble (Builtin.Int.intBits b) 4200 && decide ((Builtin.Int.intBits t : Int) - n ≤ 4000) with
    | true => some (D.tup [.int (t.fdiv b), .int (t.fmod b)])
    | false => none) = _
  rw [decide_eq_false h2, Bool.and_false]

variable {B : Bs} {L : Nat} {C p1 p2 : Nat}
noncomputable def X6b (C p1 p2 : Nat) : Nv := orN (X6 C p1 p2) (atN "_div3n2n" d3N)
theorem X6b_ok (nv6 : NvOk B L (X6 C p1 p2)) (hf : GfAt B "_div3n2n" (fnOf d3n)) : NvOk B (L + 1) (X6b C p1 p2) := by
  refine orF_ok (H := noHk) (m := 12) (k := 9) (n := 12) nv6 noHk_ok hf fun ds d h => ?_
  obtain ⟨hp, rfl⟩ := ifN_inv h
  cases hp with
  | mk hn hb1 hP h1' h2 h2' h3 h3' h0 hlt hs =>
    refine (d3_run (Nat.le_trans hn (by decide)) hb1 hP h1' h2 h2' h3 h3' h0 hlt fun hl => ?_).trans rfl
    refine orN_new (by kernel_rfl) (dvN_big hb1 (Nat.le_trans (intBits_le (Int.le_of_lt hb1) h1') (by omega)) ?_)
    rename_i n
    have hw : Builtin.Int.intBits _ ≤ n + n := intBits_le h0 (by
      rw [Int.pow_add]
      exact Int.lt_of_lt_of_le hl (Int.mul_le_mul_of_nonneg_right (Int.le_of_lt h1') (Int.le_of_lt (pow_i n))))
    omega
end Mine

end
section
open PySem PySem.W PyProof.Rows
set_option Elab.async false
set_option maxRecDepth 100000
namespace Mine

theorem d3N_nat {a12 a3 b h : Nat} (hh : h ≤ 4000) (h1 : 2 ^ h * 2 ^ h ≤ 2 * b) (h2 : b < 2 ^ h * 2 ^ h) (h3 : a3 < 2 ^ h) (h0 : a12 < b) (he : 2 ∣ 2 ^ h) :
    d3N [.int a12, .int a3, .int b, .int ((b / 2 ^ h : Nat) : Int), .int ((b % 2 ^ h : Nat) : Int), .int h] = some (.tup [.int (((a12 * 2 ^ h + a3) / b : Nat) : Int), .int (((a12 * 2 ^ h + a3) % b : Nat) : Int)]) := by
  have hp : 0 < 2 ^ h := Nat.two_pow_pos h
  have e : ((b / 2 ^ h : Nat) : Int) * 2 ^ h + ((b % 2 ^ h : Nat) : Int) = (b : Int) := by
    have := Nat.div_add_mod b (2 ^ h)
    have h5 : (((2 ^ h * (b / 2 ^ h) + b % 2 ^ h : Nat)) : Int) = (b : Int) := congrArg _ this
    rw [Int.natCast_add, Int.natCast_mul, Int.mul_comm] at h5
    simpa using h5
  have c : ∀ x : Nat, ((2 ^ x : Nat) : Int) = (2 : Int) ^ x := fun x => by simp
  have hb1 : 2 ^ h ≤ 2 * (b / 2 ^ h) := by
    obtain ⟨k, hk⟩ := he
    have : k ≤ b / 2 ^ h := (Nat.le_div_iff_mul_le hp).mpr (by
      have h6 : 2 ^ h * 2 ^ h = 2 * (k * 2 ^ h) := by
        calc 2 ^ h * 2 ^ h = (2 * k) * 2 ^ h := congrArg (· * 2 ^ h) hk
          _ = 2 * (k * 2 ^ h) := Nat.mul_assoc _ _ _
      omega)
    omega
  have hb2 : b / 2 ^ h < 2 ^ h := Nat.div_lt_of_lt_mul h2
  have p : D3C [.int a12, .int a3, .int b, .int ((b / 2 ^ h : Nat) : Int), .int ((b % 2 ^ h : Nat) : Int), .int h] := by
    have := @D3C.mk (a12 : Int) (a3 : Int) ((b / 2 ^ h : Nat) : Int) ((b % 2 ^ h : Nat) : Int) h (Nat.le_trans hh (by decide)) (by omega) (by rw [← c]; omega) (by rw [← c]; exact Int.ofNat_lt.mpr hb2) (Int.natCast_nonneg _) (by rw [← c]; exact Int.ofNat_lt.mpr (Nat.mod_lt _ hp)) (Int.natCast_nonneg _) (by rw [← c]; exact Int.ofNat_lt.mpr h3) (Int.natCast_nonneg _) (by rw [e]; exact Int.ofNat_lt.mpr h0) hh
    rwa [e] at this
  refine (ifN_eq p).trans ?_
  have e2 : (a12 : Int) * 2 ^ h + (a3 : Int) = ((a12 * 2 ^ h + a3 : Nat) : Int) := by rw [Int.natCast_add, Int.natCast_mul, c]
  show some (D.tup [.int (((a12 : Int) * 2 ^ h + (a3 : Int)) / (b : Int)), .int (((a12 : Int) * 2 ^ h + (a3 : Int)) % (b : Int))]) = _
  rw [e2, Int.natCast_ediv, Int.natCast_emod]
theorem two_half {A b P : Nat} (hb : 0 < b) (hP : 0 < P) : A / b = (A / P / b) * P + ((A / P % b) * P + A % P) / b ∧ A % b = ((A / P % b) * P + A % P) % b ∧ ((A / P % b) * P + A % P) / b < P := by
  have hr := Nat.mod_lt (A / P) hb
  have hm := Nat.mod_lt A hP
  have e1 := Nat.div_add_mod A P
  have e2 := Nat.div_add_mod (A / P) b
  generalize A / P / b = q at *
  generalize A / P % b = r at *
  have hlt : r * P + A % P < P * b := by
    have h5 : (r + 1) * P ≤ b * P := Nat.mul_le_mul_right _ hr
    rw [Nat.add_mul, Nat.one_mul, Nat.mul_comm b P] at h5
    omega
  have eA : A = (r * P + A % P) + b * (q * P) := by
    have h6 : P * (A / P) = b * (q * P) + r * P := by rw [← e2, Nat.mul_add, Nat.mul_comm P r, ← Nat.mul_assoc, Nat.mul_comm P b, Nat.mul_assoc, Nat.mul_comm P q]
    omega
  refine ⟨?_, ?_, Nat.div_lt_of_lt_mul (by rw [Nat.mul_comm b P]; exact hlt)⟩
  · generalize r * P + A % P = t at *
    rw [eA, Nat.add_mul_div_left _ _ hb]; omega
  · generalize r * P + A % P = t at *
    rw [eA, Nat.add_mul_mod_self_left]
end Mine

end
section
open PySem PySem.W PyProof.Rows
set_option Elab.async false
set_option maxRecDepth 100000
namespace Mine

theorem shr_nat (a n : Nat) : binop .RShift (.int a) (.int n) = some (.int ((a / 2 ^ n : Nat) : Int)) := by
  refine (shr_D (a := a) (n := n) (Int.natCast_nonneg _)).trans (congrArg (fun x => some (D.int x)) ?_)
  rw [Int.toNat_natCast, Int.fdiv_eq_ediv_of_nonneg _ (Int.le_of_lt (pow_i n)), Int.natCast_ediv]; simp
theorem and_nat (a n : Nat) : binop .BitAnd (.int a) (.int (2 ^ n - 1)) = some (.int ((a % 2 ^ n : Nat) : Int)) := congrArg (fun x => some (D.int x)) (band_mask a n)
theorem or_nat (a : Nat) {c n : Nat} (h : c < 2 ^ n) : binop .BitOr (.int (a * 2 ^ n)) (.int c) = some (.int ((a * 2 ^ n + c : Nat) : Int)) := by
  refine (congrArg (fun x => some (D.int x)) (bor_add a h)).trans (congrArg (fun x => some (D.int x)) ?_)
  simp
theorem ishl_eq (a n : Int) : inpOp .LShift (.int a) (.int n) = binop .LShift (.int a) (.int n) := rfl
theorem ishr_eq (a n : Int) : inpOp .RShift (.int a) (.int n) = binop .RShift (.int a) (.int n) := rfl
theorem nat_bits {a k : Nat} (h : a < 2 ^ k) : Builtin.Int.intBits (a : Int) ≤ k := intBits_nat h
noncomputable def d2S : Kd := (fnOf d2n1).scope.names
noncomputable def d2R : List Stmt := (stBody d2n1).drop 3
noncomputable def d2T : List Stmt := (stBody d2n1).drop 8
noncomputable def d2G (A B n p : Nat) : Gm := put (bindPs [] ["a", "b", "n"] [.int A, .int B, .int n]) "pad" (.int p)
noncomputable def d2H (A B n p h : Nat) : Gm := put (put (put (put (d2G A B n p) "half_n" (.int h)) "mask" (.int (2 ^ h - 1))) "b2" (.int ((B % 2 ^ h : Nat) : Int))) "b1" (.int ((B / 2 ^ h : Nat) : Int))
noncomputable def d2J (A B n p h q1 q2 r : Nat) : Gm := put (put (put (d2H A B n p h) "q1" (.int q1)) "r" (.int r)) "q2" (.int q2)
section
variable {X : Nv}
theorem d2_end {A B n h q1 q2 r : Nat} (c : Bool) (hq : q2 < 2 ^ h) (hh : h ≤ 4000) (hb : Builtin.Int.intBits (q1 : Int) ≤ 2 ^ 20) :
    ∃ Γ, evSs (evS noHk (evE X 12) 9 12) d2S d2T (d2J A B n (cond c 1 0) h q1 q2 r) [] = some (.ret (.tup [.int ((q1 * 2 ^ h + q2 : Nat) : Int), .int (cond c (((r / 2 : Nat)) : Int) (r : Int))]), Γ, []) := by
  have hs : binop .LShift (.int q1) (.int h) = some (.int (q1 * 2 ^ h)) := shl_D (a := q1) (n := (h : Int)) (Int.natCast_nonneg _) (by omega)
  have ho := or_nat q1 hq
  cases c
  · refine ⟨d2J A B n 0 h q1 q2 r, ?_⟩
    refine (evSs_cons (Γ1 := d2J A B n 0 h q1 q2 r) (Ω1 := []) ((evS_IfH (c := false) rfl (testD_of (d := .int 0) (by kernel_rfl) rfl)).trans rfl)).trans ?_
    exact evSs_ret (evS_RetH rfl (evE_tup (each_cons rfl (evE_bin (a := .int (q1 * 2 ^ h)) (b := .int q2) (evE_bin (a := .int q1) (b := .int h) (by kernel_rfl) (by kernel_rfl) hs) (by kernel_rfl) ho) (each_cons (d := .int r) (ds := []) rfl (by kernel_rfl) rfl)) rfl))
  · refine ⟨d2J A B n 1 h q1 q2 (r / 2), ?_⟩
    refine (evSs_cons (Γ1 := d2J A B n 1 h q1 q2 (r / 2)) (Ω1 := []) ((evS_IfH (c := true) rfl (testD_of (d := .int 1) (by kernel_rfl) rfl)).trans ?_)).trans ?_
    · refine (evSs_cons (evS_aug (a := .int r) (b := .int 1) (d := .int ((r / 2 : Nat) : Int)) rfl rfl rfl (by kernel_rfl) (by kernel_rfl) ?_)).trans ?_
      · exact (ishr_eq r 1).trans (shr_nat r 1)
      · kernel_rfl
    · exact evSs_ret (evS_RetH rfl (evE_tup (each_cons rfl (evE_bin (a := .int (q1 * 2 ^ h)) (b := .int q2) (evE_bin (a := .int q1) (b := .int h) (by kernel_rfl) (by kernel_rfl) hs) (by kernel_rfl) ho) (each_cons (d := .int ((r / 2 : Nat) : Int)) (ds := []) rfl (by kernel_rfl) rfl)) rfl))
end
end Mine

end
section
open PySem PySem.W PyProof.Rows
set_option Elab.async false
set_option maxRecDepth 100000
namespace Mine

section
variable {X : Nv}
theorem div_again (A P : Nat) : A / P / P * P + A / P % P = A / P := Nat.div_add_mod' _ _
theorem d2_mid {A B h p : Nat} (hh : h ≤ 4000) (hA : A / 2 ^ h / 2 ^ h < B)
    (hX : ∀ a12 a3 : Nat, a12 < B → a3 < 2 ^ h → X.N "_div3n2n" [.int a12, .int a3, .int B, .int ((B / 2 ^ h : Nat) : Int), .int ((B % 2 ^ h : Nat) : Int), .int h] = some (.tup [.int (((a12 * 2 ^ h + a3) / B : Nat) : Int), .int (((a12 * 2 ^ h + a3) % B : Nat) : Int)])) :
    evSs (evS noHk (evE X 12) 9 12) d2S d2R (d2G A B (2 * h) p) [] = evSs (evS noHk (evE X 12) 9 12) d2S d2T (d2J A B (2 * h) p h (A / 2 ^ h / B) ((A / 2 ^ h % B * 2 ^ h + A % 2 ^ h) / B) ((A / 2 ^ h % B * 2 ^ h + A % 2 ^ h) % B)) [] := by
  have hp := Nat.two_pow_pos h
  have hB : 0 < B := Nat.lt_of_le_of_lt (Nat.zero_le _) hA
  have e1 : binop .RShift (.int ((2 * h : Nat) : Int)) (.int 1) = some (.int (h : Int)) := by
    refine (show _ = binop .RShift (.int ((2 * h : Nat) : Int)) (.int ((1 : Nat) : Int)) from rfl).trans ((shr_nat (2 * h) 1).trans ?_)
    rw [Nat.pow_one, Nat.mul_div_cancel_left h (by decide)]
  have e2 : binop .LShift (.int 1) (.int h) = some (.int (2 ^ h)) := by
    have := shl_D (a := 1) (n := (h : Int)) (Int.natCast_nonneg _) (by rw [bits_1]; omega)
    rwa [Int.one_mul, Int.toNat_natCast] at this
  have e3 : binop .RShift (.int A) (.int ((2 * h : Nat) : Int)) = some (.int ((A / 2 ^ h / 2 ^ h : Nat) : Int)) := by
    rw [shr_nat, Nat.div_div_eq_div_mul, ← Nat.pow_add, Nat.two_mul]
  have c1 := hX _ _ hA (Nat.mod_lt (A / 2 ^ h) hp)
  rw [div_again] at c1
  have c2 := hX _ _ (Nat.mod_lt (A / 2 ^ h) hB) (Nat.mod_lt A hp)
  have s1 := shr_nat A h
  have s2 := shr_nat B h
  have m1 := and_nat (A / 2 ^ h) h
  have m2 := and_nat A h
  have m3 := and_nat B h
  generalize (A / 2 ^ h % B * 2 ^ h + A % 2 ^ h) / B = q2 at *
  generalize (A / 2 ^ h % B * 2 ^ h + A % 2 ^ h) % B = r2 at *
  generalize A / 2 ^ h / B = q1 at *
  generalize A / 2 ^ h % B = r1 at *
  refine (evSs_cons (evS_asg (d := .int h) rfl rfl rfl (evE_bin (a := .int ((2 * h : Nat) : Int)) (b := .int 1) (by kernel_rfl) (by kernel_rfl) e1))).trans ?_
  refine (evSs_cons (evS_asg (d := .int (2 ^ h - 1)) rfl rfl rfl (evE_bin (a := .int (2 ^ h)) (b := .int 1) (evE_bin (a := .int 1) (b := .int h) (by kernel_rfl) (by kernel_rfl) e2) (by kernel_rfl) rfl))).trans ?_
  refine (evSs_cons (Γ1 := d2H A B (2 * h) p h) (Ω1 := []) (evS_swap (d1 := .int ((B / 2 ^ h : Nat) : Int)) (d2 := .int ((B % 2 ^ h : Nat) : Int)) (x := "b1") (y := "b2") rfl (by kernel_rfl) (evE_tup (each_cons rfl (evE_bin (a := .int B) (b := .int h) (by kernel_rfl) (by kernel_rfl) s2) (each_cons (ds := []) rfl (evE_bin (a := .int B) (b := .int (2 ^ h - 1)) (by kernel_rfl) (by kernel_rfl) m3) rfl)) rfl) (by kernel_rfl))).trans ?_
  refine (evSs_cons (evS_tup (Γ1 := put (put (d2H A B (2 * h) p h) "q1" (.int q1)) "r" (.int r1)) rfl rfl (evE_call rfl rfl (each_cons (d := .int ((A / 2 ^ h / 2 ^ h : Nat) : Int)) rfl (evE_bin (a := .int A) (b := .int ((2 * h : Nat) : Int)) (by kernel_rfl) (by kernel_rfl) e3) (each_cons (d := .int ((A / 2 ^ h % 2 ^ h : Nat) : Int)) rfl (evE_bin (a := .int ((A / 2 ^ h : Nat) : Int)) (b := .int (2 ^ h - 1)) (evE_bin (a := .int A) (b := .int h) (by kernel_rfl) (by kernel_rfl) s1) (by kernel_rfl) m1)
    (each_cons (d := .int B) rfl (by kernel_rfl) (each_cons (d := .int ((B / 2 ^ h : Nat) : Int)) rfl (by kernel_rfl) (each_cons (d := .int ((B % 2 ^ h : Nat) : Int)) rfl (by kernel_rfl) (each_cons (d := .int h) (ds := []) rfl (by kernel_rfl) rfl)))))) c1) (by kernel_rfl))).trans ?_
  refine (evSs_cons (evS_tup (Γ1 := d2J A B (2 * h) p h q1 q2 r2) rfl rfl (evE_call rfl rfl (each_cons (d := .int r1) rfl (by kernel_rfl) (each_cons (d := .int ((A % 2 ^ h : Nat) : Int)) rfl (evE_bin (a := .int A) (b := .int (2 ^ h - 1)) (by kernel_rfl) (by kernel_rfl) m2)
    (each_cons (d := .int B) rfl (by kernel_rfl) (each_cons (d := .int ((B / 2 ^ h : Nat) : Int)) rfl (by kernel_rfl) (each_cons (d := .int ((B % 2 ^ h : Nat) : Int)) rfl (by kernel_rfl) (each_cons (d := .int h) (ds := []) rfl (by kernel_rfl) rfl)))))) c2) (by kernel_rfl))).trans ?_
  rfl
end
end Mine

end
section
open PySem PySem.W PyProof.Rows
set_option Elab.async false
set_option maxRecDepth 100000
namespace Mine

section
variable {X : Nv}
theorem d2_both {A B h : Nat} (c : Bool) (hh : h ≤ 4000) (h0 : 1 ≤ h) (h1 : 2 ^ h * 2 ^ h ≤ 2 * B) (h2 : B < 2 ^ h * 2 ^ h) (hA : A < 2 ^ h * 2 ^ h * B) (hX : ∀ ds d, d3N ds = some d → X.N "_div3n2n" ds = some d) :
    ∃ Γ, evSs (evS noHk (evE X 12) 9 12) d2S d2R (d2G A B (2 * h) (cond c 1 0)) [] = some (.ret (.tup [.int ((A / B : Nat) : Int), .int (cond c ((A % B / 2 : Nat) : Int) ((A % B : Nat) : Int))]), Γ, []) := by
  have hp := Nat.two_pow_pos h
  have hB : 0 < B := Nat.pos_of_ne_zero fun e => by rw [e] at hA; exact Nat.not_lt_zero _ hA
  have hd : 2 ∣ 2 ^ h := ⟨2 ^ (h - 1), by rw [← Nat.pow_succ']; exact congrArg _ (Nat.succ_pred_eq_of_pos h0).symm⟩
  have hA1 : A / 2 ^ h < 2 ^ h * B := Nat.div_lt_of_lt_mul (by rwa [← Nat.mul_assoc])
  have hA2 : A / 2 ^ h / 2 ^ h < B := Nat.div_lt_of_lt_mul hA1
  obtain ⟨t1, t2, t3⟩ := two_half (A := A) hB hp
  have hq1 : A / 2 ^ h / B < 2 ^ h := Nat.div_lt_of_lt_mul (by rw [Nat.mul_comm]; exact hA1)
  obtain ⟨Γ, he⟩ := d2_end (X := X) (A := A) (B := B) (n := 2 * h) (r := (A / 2 ^ h % B * 2 ^ h + A % 2 ^ h) % B) c t3 hh (Nat.le_trans (nat_bits hq1) (Nat.le_trans hh (by decide)))
  refine ⟨Γ, (d2_mid hh hA2 fun a12 a3 g1 g2 => hX _ _ (d3N_nat hh h1 h2 g2 g1 hd)).trans (he.trans ?_)⟩
  rw [← t1, ← t2]
noncomputable def d2Z (a b n : Nat) : Gm := bindPs [] ["a", "b", "n"] [.int a, .int b, .int n]
theorem d2_run {a b n : Nat} (hn : n ≤ 7900) (hn1 : 2 ≤ n) (hb : 2 ^ n ≤ 2 * b) (hbn : b < 2 ^ n) (ha : a < 2 ^ n * b) (hbig : ¬ (Builtin.Int.intBits (a : Int) : Int) - n ≤ 4000) (ht : evE X 12 d2S (d2Z a b n) (tstOf ((stBody d2n1).getD 0 (.Pass default))) = some (.bool (decide ((Builtin.Int.intBits (a : Int) : Int) - n ≤ 4000)))) (hX : ∀ ds d, d3N ds = some d → X.N "_div3n2n" ds = some d) :
    runF (evS noHk (evE X 12) 9 12) (fnOf d2n1) [.int a, .int b, .int n] = some (.tup [.int ((a / b : Nat) : Int), .int ((a % b : Nat) : Int)]) := by
  have htest : evSs (evS noHk (evE X 12) 9 12) d2S (stBody d2n1) (d2Z a b n) [] = evSs (evS noHk (evE X 12) 9 12) d2S ((stBody d2n1).drop 1) (d2Z a b n) [] := by
    refine evSs_cons ((evS_IfH (c := false) rfl (testD_of (d := .bool (decide ((Builtin.Int.intBits (a : Int) : Int) - n ≤ 4000))) ht (by show some (decide _) = _; rw [decide_eq_false hbig]))).trans rfl)
  have hand : binop .BitAnd (.int n) (.int 1) = some (.int ((n % 2 : Nat) : Int)) := and_nat n 1
  have hpad : evSs (evS noHk (evE X 12) 9 12) d2S ((stBody d2n1).drop 1) (d2Z a b n) [] = evSs (evS noHk (evE X 12) 9 12) d2S ((stBody d2n1).drop 2) (d2G a b n (n % 2)) [] :=
    evSs_cons (evS_asg (d := .int ((n % 2 : Nat) : Int)) rfl rfl rfl (evE_bin (a := .int n) (b := .int 1) (by kernel_rfl) (by kernel_rfl) hand))
  rcases Nat.mod_two_eq_zero_or_one n with e | e
  · obtain ⟨h, rfl⟩ : ∃ h, n = 2 * h := ⟨n / 2, by omega⟩
    have hpp : 2 ^ (2 * h) = 2 ^ h * 2 ^ h := by rw [Nat.two_mul, Nat.pow_add]
    rw [hpp] at hb hbn ha
    obtain ⟨Γ, hr⟩ := d2_both (X := X) (A := a) (B := b) (h := h) false (by omega) (by omega) hb hbn ha hX
    refine runF_ret (Γ := Γ) (Ω := []) rfl (htest.trans (hpad.trans ?_))
    rw [e]
    exact (evSs_cons (Γ1 := d2G a b (2 * h) 0) (Ω1 := []) ((evS_IfH (c := false) rfl (testD_of (d := .int 0) (by kernel_rfl) rfl)).trans rfl)).trans hr
  · obtain ⟨h, rfl⟩ : ∃ h, n = 2 * h + 1 := ⟨n / 2, by omega⟩
    have hpp : 2 ^ (h + 1) * 2 ^ (h + 1) = 2 ^ (2 * h + 1) * 2 := by rw [← Nat.pow_add, ← Nat.pow_succ]; exact congrArg _ (by omega)
    have hA : a * 2 < 2 ^ (h + 1) * 2 ^ (h + 1) * (b * 2) := by
      rw [hpp]
      have x1 : 2 ^ (2 * h + 1) * 2 * (b * 2) = 2 ^ (2 * h + 1) * b * 4 := by rw [Nat.mul_assoc, Nat.mul_assoc]; exact congrArg _ (by omega)
      rw [x1]; omega
    obtain ⟨Γ, hr⟩ := d2_both (X := X) (A := a * 2) (B := b * 2) (h := h + 1) true (by omega) (by omega) (by omega) (by omega) hA hX
    rw [Nat.mul_div_mul_right _ _ (by decide), Nat.mul_mod_mul_right, Nat.mul_div_cancel _ (by decide)] at hr
    refine runF_ret (Γ := Γ) (Ω := []) rfl (htest.trans (hpad.trans ?_))
    rw [e]
    have sh : ∀ x : Nat, x < 2 ^ 20000 → inpOp .LShift (.int x) (.int 1) = some (.int ((x * 2 : Nat) : Int)) := fun x hx => by
      have := shl_D (a := x) (n := 1) (by decide) (by have := nat_bits hx; omega)
      refine (ishl_eq x 1).trans (this.trans (congrArg (fun y => some (D.int y)) ?_))
      rw [Int.natCast_mul]; rfl
    have hp2 : (2 : Nat) ^ (2 * h + 1) ≤ 2 ^ 10000 := Nat.pow_le_pow_right (by decide) (by omega)
    have hbx : b < 2 ^ 20000 := Nat.lt_of_lt_of_le hbn (Nat.pow_le_pow_right (by decide) (by omega))
    have hax : a < 2 ^ 20000 := Nat.lt_of_lt_of_le ha (by
      have : 2 ^ (2 * h + 1) * b ≤ 2 ^ (2 * h + 1) * 2 ^ (2 * h + 1) := Nat.mul_le_mul_left _ (Nat.le_of_lt hbn)
      refine Nat.le_trans this ?_
      rw [← Nat.pow_add]
      exact Nat.pow_le_pow_right (by decide) (by omega))
    refine (evSs_cons (Γ1 := d2G (a * 2) (b * 2) (2 * (h + 1)) 1) (Ω1 := []) ((evS_IfH (c := true) rfl (testD_of (d := .int 1) (by kernel_rfl) rfl)).trans ?_)).trans hr
    refine (evSs_cons (evS_aug (a := .int a) (b := .int 1) (d := .int ((a * 2 : Nat) : Int)) rfl rfl rfl (by kernel_rfl) (by kernel_rfl) (sh a hax))).trans ?_
    refine (evSs_cons (evS_aug (a := .int b) (b := .int 1) (d := .int ((b * 2 : Nat) : Int)) rfl rfl rfl (by kernel_rfl) (by kernel_rfl) (sh b hbx))).trans ?_
    refine (evSs_cons (evS_aug (a := .int ((2 * h + 1 : Nat) : Int)) (b := .int 1) (d := .int ((2 * (h + 1) : Nat) : Int)) rfl rfl rfl (by kernel_rfl) (by kernel_rfl) rfl)).trans ?_
    kernel_rfl
end
end Mine

end
section
open PySem PySem.W PyProof.Rows
set_option Elab.async false
set_option maxRecDepth 100000
namespace Mine

inductive D2C : List D → Prop
  | mk {a b n : Nat} (hn : n ≤ 4200) (hn1 : 2 ≤ n) (hb : 2 ^ n ≤ 2 * b) (hbn : b < 2 ^ n) (ha : a < 2 ^ n * b) (hbig : ¬ (Builtin.Int.intBits (a : Int) : Int) - n ≤ 4000) : D2C [.int a, .int b, .int n]
noncomputable def d2V (ds : List D) : D := .tup [.int (iAt ds 0 / iAt ds 1), .int (iAt ds 0 % iAt ds 1)]
noncomputable def d2N : List D → Option D := ifN D2C d2V
theorem orN_none {X : Nv} {f : List D → Option D} {x : Str} {ds : List D} (h0 : X.N x ds = none) (h : f ds = none) : (orN X (atN x f)).N x ds = none := by simp only [orN, h0, atN_self, h]
variable {B : Bs} {L : Nat} {C p1 p2 : Nat}
noncomputable def X6c (C p1 p2 : Nat) : Nv := orN (X6b C p1 p2) (atN "_div2n1n" d2N)
theorem X6c_ok (nv : NvOk B L (X6b C p1 p2)) (hf : GfAt B "_div2n1n" (fnOf d2n1)) : NvOk B (L + 1) (X6c C p1 p2) := by
  refine orF_ok (H := noHk) (m := 12) (k := 9) (n := 12) nv noHk_ok hf fun ds d h => ?_
  obtain ⟨hp, rfl⟩ := ifN_inv h
  cases hp with
  | mk hn hn1 hb hbn ha hbig =>
    refine (d2_run (Nat.le_trans hn (by decide)) hn1 hb hbn ha hbig (by kernel_rfl) fun ds d h => orN_new (by kernel_rfl) h).trans ?_
    show some (D.tup [_, _]) = some (D.tup [_, _])
    rw [Int.natCast_ediv, Int.natCast_emod]; rfl
theorem div2_all {b n : Nat} (hn : n ≤ 4200) (hb : 2 ^ n ≤ 2 * b) (hbn : b < 2 ^ n) (t : Int) (h0 : 0 ≤ t) (ht : t < 2 ^ n * b) : (X6c C p1 p2).N "_div2n1n" [.int t, .int b, .int n] = some (.tup [.int (t / b), .int (t % b)]) := by
  have hb0 : 0 < b := by have := Nat.two_pow_pos n; omega
  by_cases hs : (Builtin.Int.intBits t : Int) - n ≤ 4000
  · exact orN_old (orN_old (orN_new (by kernel_rfl) (dvN_big (by omega) (Nat.le_trans (nat_bits hbn) hn) hs)))
  · obtain ⟨a, rfl⟩ := Int.eq_ofNat_of_zero_le h0
    have ha : a < 2 ^ n * b := by
      have : ((a : Nat) : Int) < ((2 ^ n * b : Nat) : Int) := by rw [Int.natCast_mul]; simpa using ht
      exact Int.ofNat_lt.mp this
    have hn1 : 2 ≤ n := by
      have h5 : Builtin.Int.intBits (a : Int) ≤ n + n := nat_bits (Nat.lt_of_lt_of_le ha (by rw [Nat.pow_add]; exact Nat.mul_le_mul_left _ (Nat.le_of_lt hbn)))
      omega
    have h6 : (X6 C p1 p2).N "_div2n1n" [.int (a : Int), .int b, .int n] = none := orN_none (by kernel_rfl) (dvN_not hs)
    refine orN_new ?_ ((ifN_eq (D2C.mk hn hn1 hb hbn ha hs)).trans rfl)
    show (match (X6 C p1 p2).N "_div2n1n" [.int (a : Int), .int b, .int n] with
      | some d => some d
      | none => atN "_div3n2n" d3N "_div2n1n" [.int (a : Int), .int b, .int n]) = none
    rw [h6]; rfl
theorem pow_bits {b : Nat} (hb : 0 < b) : 2 ^ Builtin.Int.intBits (b : Int) ≤ 2 * b := by
  refine Nat.not_lt.mp fun h => ?_
  cases hn : Builtin.Int.intBits (b : Int) with
  | zero => rw [hn] at h; have : 2 ^ 0 = 1 := rfl; omega
  | succ m =>
    rw [hn, Nat.pow_succ] at h
    have := nat_bits (a := b) (k := m) (by omega)
    omega
end Mine

end
section
open PySem PySem.W PyProof.Rows
set_option Elab.async false
set_option maxRecDepth 100000
set_option exponentiation.threshold 10000
namespace Mine

noncomputable def dmP (p : Int × Int) : Option D := match decide (0 ≤ p.1) && decide (0 < p.2) && Nat.ble (Builtin.Int.intBits p.2) 4200 && Nat.ble (ndig p.1.toNat (Builtin.Int.intBits p.2)) 64 with
  | true => some (.tup [.int (p.1 / p.2), .int (p.1 % p.2)])
  | false => none
noncomputable def dmN : List D → Option D := fun ds => match two intOf1 intOf1 ds with
  | some p => dmP p
  | none => none
theorem dmN_eq {a b : Int} (h0 : 0 ≤ a) (hb : 0 < b) (h1 : Builtin.Int.intBits b ≤ 4200) (h2 : ndig a.toNat (Builtin.Int.intBits b) ≤ 64) : dmN [.int a, .int b] = some (.tup [.int (a / b), .int (a % b)]) := by
  show dmP (a, b) = _
  unfold dmP
  dsimp only
  rw [decide_eq_true h0, decide_eq_true hb, Nat.ble_eq_true_of_le h1, Nat.ble_eq_true_of_le h2]; rfl
theorem dmP_inv {a b : Int} {d : D} (h : dmP (a, b) = some d) : d = .tup [.int (a / b), .int (a % b)] ∧ 0 ≤ a ∧ 0 < b ∧ Builtin.Int.intBits b ≤ 4200 ∧ ndig a.toNat (Builtin.Int.intBits b) ≤ 64 := by
  unfold dmP at h
  split at h
  · rename_i hc
    simp only [Bool.and_eq_true] at hc
    exact ⟨(Option.some.inj h).symm, of_decide_eq_true hc.1.1.1, of_decide_eq_true hc.1.1.2, Nat.le_of_ble_eq_true hc.1.2, Nat.le_of_ble_eq_true hc.2⟩
  · exact nsd h
theorem dmN_inv {ds : List D} {d : D} (h : dmN ds = some d) : ∃ a b : Int, ds = [.int a, .int b] ∧ d = .tup [.int (a / b), .int (a % b)] ∧ 0 ≤ a ∧ 0 < b ∧ Builtin.Int.intBits b ≤ 4200 ∧ ndig a.toNat (Builtin.Int.intBits b) ≤ 64 := by
  unfold dmN at h
  split at h
  · rename_i p hp
    obtain ⟨x, y, rfl, e1, e2⟩ := two_eq hp
    obtain ⟨a, b⟩ := p
    exact ⟨a, b, by rw [intOf1_eq e1, intOf1_eq e2], dmP_inv h⟩
  · exact nsd h
theorem i2dN_eq {a n : Nat} (h0 : 0 < n) (hn : n ≤ 16384) (h2 : ndig a n ≤ 64) : i2dN [.int a, .int n] = some (.lst ((digs n (ndig a n) a).map D.int)) := by
  show (match decide (0 ≤ (a : Int)) && decide (0 < (n : Int)) && decide ((n : Int) ≤ 16384) && Nat.ble (ndig (a : Int).toNat (n : Int).toNat) 64 with
    | true => some (D.lst ((digs (n : Int).toNat (ndig (a : Int).toNat (n : Int).toNat) (a : Int).toNat).map D.int))
    | false => none) = _
  rw [decide_eq_true (Int.natCast_nonneg a), decide_eq_true (by omega : (0 : Int) < n), decide_eq_true (by omega : (n : Int) ≤ 16384), Int.toNat_natCast, Int.toNat_natCast, Nat.ble_eq_true_of_le h2]; rfl
theorem d2iN_eq {n : Nat} {qs : List Int} (hn : n ≤ 16384) (h1 : ∀ q ∈ qs, 0 ≤ q ∧ q < 2 ^ n) (h2 : qs.length ≤ 64) : d2iN [.lst (qs.map D.int), .int n] = some (.int (val n qs)) := by
  show (match decide (0 ≤ (n : Int)) && decide ((n : Int) ≤ 16384) with
    | true => match intsB (n : Int).toNat (qs.map D.int) with
      | some l => match Nat.ble l.length 64 with
        | true => some (D.int (val (n : Int).toNat l))
        | false => none
      | none => none
    | false => none) = _
  rw [decide_eq_true (Int.natCast_nonneg n), decide_eq_true (by omega : (n : Int) ≤ 16384), Int.toNat_natCast, intsB_map h1]
  show (match Nat.ble qs.length 64 with
        | true => some (D.int (val n qs))
        | false => none) = _
  rw [Nat.ble_eq_true_of_le h2]
variable {B : Bs} {L : Nat} {C p1 p2 : Nat}
noncomputable def X7 (C p1 p2 : Nat) : Nv := orN (X6c C p1 p2) (atN "_divmod_pos" dmN)
theorem X7_ok (nv6 : NvOk B L (X6c C p1 p2)) (hmg : B.mg "reversed" = none) (hmb : B.mb "reversed" = some (.type "reversed")) (hf : GfAt B "_divmod_pos" (fnOf dDmp)) : NvOk B (L + 1) (X7 C p1 p2) := by
  refine orF_ok (H := hkRev (X6c C p1 p2) 12 9 10) (m := 12) (k := 9) (n := 12) nv6 (hkRev_ok nv6 hmg hmb 12 9 10) hf fun ds d h => ?_
  obtain ⟨a, b, rfl, rfl, h0, hb, h1, h2⟩ := dmN_inv h
  obtain ⟨a, rfl⟩ := Int.eq_ofNat_of_zero_le h0
  obtain ⟨b, rfl⟩ := Int.eq_ofNat_of_zero_le (Int.le_of_lt hb)
  have hb : 0 < b := by omega
  rw [Int.toNat_natCast] at h2
  have hlt := lt_pow_bits b
  have hn0 : 0 < Builtin.Int.intBits (b : Int) := Nat.pos_of_ne_zero fun e => by rw [e] at hlt; omega
  refine dm_run hb hlt (Nat.le_trans h1 (by decide)) (ndig_ok hn0) h2 rfl ?_ (fun t ht0 ht => ?_) fun qs hq hl => ?_
  · exact orN_old (orN_old (orN_old (orN_old (orN_new (by kernel_rfl) (i2dN_eq hn0 (Nat.le_trans h1 (by decide)) h2)))))
  · exact div2_all h1 (pow_bits hb) hlt t ht0 ht
  · exact orN_old (orN_old (orN_old (orN_new (by kernel_rfl) (d2iN_eq (Nat.le_trans h1 (by decide)) hq (by omega)))))

noncomputable def dIdm : Stmt := defOf "int_divmod" Pb
noncomputable def X8 (C p1 p2 : Nat) : Nv := orN (X7 C p1 p2) (atN "int_divmod" dmN)
theorem X8_ok (nv7 : NvOk B L (X7 C p1 p2)) (hf : GfAt B "int_divmod" (fnOf dIdm)) : NvOk B (L + 1) (X8 C p1 p2) := by
  refine orF_ok (H := noHk) (m := 12) (k := 9) (n := 12) nv7 noHk_ok hf fun ds d h => ?_
  obtain ⟨a, b, rfl, rfl, h0, hb, h1, h2⟩ := dmN_inv h
  refine runF_ret (Γ := bindPs [] ["a", "b"] [.int a, .int b]) (Ω := []) rfl ?_
  refine evSs_ret ?_
  refine (evS_IfH (c := false) rfl (testD_of (d := .bool (decide (b = 0))) (by kernel_rfl) (by show some (decide _) = _; rw [decide_eq_false (by omega)]))).trans ?_
  refine evSs_ret ((evS_IfH (c := false) rfl (testD_of (d := .bool (decide (b < 0))) (by kernel_rfl) (by show some (decide _) = _; rw [decide_eq_false (by omega)]))).trans ?_)
  refine evSs_ret ((evS_IfH (c := false) rfl (testD_of (d := .bool (decide (a < 0))) (by kernel_rfl) (by show some (decide _) = _; rw [decide_eq_false (by omega)]))).trans ?_)
  exact evSs_ret (evS_RetH rfl (evE_call rfl rfl (each_cons (d := .int a) rfl (by kernel_rfl) (each_cons (d := .int b) (ds := []) rfl (by kernel_rfl) rfl)) (orN_new (by kernel_rfl) h)))

theorem not_o (b r : Int) : b + (-r - 1) = b - 1 - r := by
  show b + (-r + -1) = b + -1 + -r
  rw [Int.add_comm (-r), Int.add_assoc]
theorem not_ediv {a b : Int} (ha : a < 0) (hb : 0 < b) : -((-a - 1) / b) - 1 = a / b ∧ b + (-((-a - 1) % b) - 1) = a % b := by
  obtain ⟨n, rfl⟩ := Int.eq_negSucc_of_lt_zero ha
  rw [show -Int.negSucc n - 1 = (n : Int) from Int.add_sub_cancel (n : Int) 1, Int.negSucc_ediv n hb, Int.negSucc_emod n hb]
  exact ⟨(Int.neg_add ..).symm, not_o ..⟩
noncomputable def ngN : List D → Option D := fun ds => match two intOf1 intOf1 ds with
  | some p => match decide (p.1 < 0) with
    | true => match dmP (-p.1 - 1, p.2) with
      | some _ => some (.tup [.int (p.1 / p.2), .int (p.1 % p.2)])
      | none => none
    | false => none
  | none => none
noncomputable def X9 (C p1 p2 : Nat) : Nv := orN (X8 C p1 p2) (atN "int_divmod" ngN)
theorem X9_ok (nv8 : NvOk B L (X8 C p1 p2)) (hf : GfAt B "int_divmod" (fnOf dIdm)) : NvOk B (L + 1) (X9 C p1 p2) := by
  refine orF_ok (H := noHk) (m := 12) (k := 9) (n := 12) nv8 noHk_ok hf fun ds d h => ?_
  unfold ngN at h
  split at h
  · rename_i p hp
    obtain ⟨x, y, rfl, e1, e2⟩ := two_eq hp
    obtain ⟨a, b⟩ := p
    rw [intOf1_eq e1, intOf1_eq e2]
    clear hp e1 e2
    dsimp only at h
    split at h
    · rename_i ha
      split at h
      · rename_i d' hd'
        rw [← Option.some.inj h]
        have ha := of_decide_eq_true ha
        obtain ⟨rfl, h0, hb, h1, h2⟩ := dmP_inv hd'
        replace hd' : dmN [.int (-a - 1), .int b] = some (.tup [.int ((-a - 1) / b), .int ((-a - 1) % b)]) := hd'
        have key := not_ediv (a := a) ha hb
        rw [← key.1, ← key.2]
        generalize hq : (-a - 1) / b = q at *
        generalize hr : (-a - 1) % b = r at *
        refine runF_ret (Γ := put (put (bindPs [] ["a", "b"] [.int a, .int b]) "q" (.int q)) "r" (.int r)) (Ω := []) rfl ?_
        refine evSs_ret ?_
        refine (evS_IfH (c := false) rfl (testD_of (d := .bool (decide (b = 0))) (by kernel_rfl) (by show some (decide _) = _; rw [decide_eq_false (by omega)]))).trans ?_
        refine evSs_ret ((evS_IfH (c := false) rfl (testD_of (d := .bool (decide (b < 0))) (by kernel_rfl) (by show some (decide _) = _; rw [decide_eq_false (by omega)]))).trans ?_)
        refine evSs_ret ((evS_IfH (c := true) rfl (testD_of (d := .bool (decide (a < 0))) (by kernel_rfl) (by show some (decide _) = _; rw [decide_eq_true ha]))).trans ?_)
        refine (evSs_cons (evS_tup (d := .tup [.int q, .int r]) (Γ1 := put (put (bindPs [] ["a", "b"] [.int a, .int b]) "q" (.int q)) "r" (.int r)) rfl rfl (evE_call rfl rfl (each_cons (d := .int (-a - 1)) rfl (by kernel_rfl) (each_cons (d := .int b) (ds := []) rfl (by kernel_rfl) rfl)) (orN_new (by kernel_rfl) hd')) (by kernel_rfl))).trans ?_
        exact evSs_ret (evS_RetH rfl (by kernel_rfl))
      · exact nsd h
    · exact nsd h
  · exact nsd h
end Mine

end
section
open PySem PySem.W PyProof.Rows
set_option Elab.async false
set_option maxRecDepth 100000
namespace Mine

theorem ngN_eq {a b : Int} (ha : a < 0) (hb : 0 < b) (h1 : Builtin.Int.intBits b ≤ 4200) (h2 : ndig (-a - 1).toNat (Builtin.Int.intBits b) ≤ 64) : ngN [.int a, .int b] = some (.tup [.int (a / b), .int (a % b)]) := by
  have hd : dmP (-a - 1, b) = some (.tup [.int ((-a - 1) / b), .int ((-a - 1) % b)]) := dmN_eq (by omega) hb h1 h2
  show (match decide (a < 0) with
    | true => match dmP (-a - 1, b) with
      | some _ => some (D.tup [.int (a / b), .int (a % b)])
      | none => none
    | false => none) = _
  rw [decide_eq_true ha, hd]
theorem dmN_neg {a b : Int} (ha : a < 0) : dmN [.int a, .int b] = none := by
  show (match decide (0 ≤ a) && decide (0 < b) && Nat.ble (Builtin.Int.intBits b) 4200 && Nat.ble (ndig a.toNat (Builtin.Int.intBits b)) 64 with
    | true => some (D.tup [.int (a / b), .int (a % b)])
    | false => none) = none
  rw [decide_eq_false (by omega)]; rfl
inductive IdC : List D → Prop
  | mk {a b : Int} (ha : 0 < a) (hb : b < 0) (h1 : Builtin.Int.intBits (-b) ≤ 4200) (h2 : ndig (a - 1).toNat (Builtin.Int.intBits (-b)) ≤ 64) : IdC [.int a, .int b]
noncomputable def idV (ds : List D) : D := .tup [.int (-iAt ds 0 / -iAt ds 1), .int (-(-iAt ds 0 % -iAt ds 1))]
noncomputable def idN : List D → Option D := ifN IdC idV
variable {B : Bs} {L : Nat} {C p1 p2 : Nat}
noncomputable def X9c (C p1 p2 : Nat) : Nv := orN (X9 C p1 p2) (atN "int_divmod" idN)
theorem X9_neg {a b : Int} (ha : a < 0) (hb : 0 < b) (h1 : Builtin.Int.intBits b ≤ 4200) (h2 : ndig (-a - 1).toNat (Builtin.Int.intBits b) ≤ 64) : (X9 C p1 p2).N "int_divmod" [.int a, .int b] = some (.tup [.int (a / b), .int (a % b)]) :=
  orN_new (orN_none (by kernel_rfl) (dmN_neg ha)) (ngN_eq ha hb h1 h2)
theorem X9c_ok (nv : NvOk B L (X9 C p1 p2)) (hf : GfAt B "int_divmod" (fnOf dIdm)) : NvOk B (L + 1) (X9c C p1 p2) := by
  refine orF_ok (H := noHk) (m := 12) (k := 9) (n := 12) nv noHk_ok hf fun ds d h => ?_
  obtain ⟨hp, rfl⟩ := ifN_inv h
  cases hp with
  | mk ha hb h1 h2 =>
    rename_i a b
    have hc := X9_neg (C := C) (p1 := p1) (p2 := p2) (a := -a) (b := -b) (by omega) (by omega) h1 (by rw [Int.neg_neg]; exact h2)
    show _ = some (D.tup [.int (-a / -b), .int (-(-a % -b))])
    generalize -a / -b = q at *
    generalize -a % -b = r at *
    refine runF_ret (Γ := put (put (bindPs [] ["a", "b"] [.int a, .int b]) "q" (.int q)) "r" (.int r)) (Ω := []) rfl ?_
    refine evSs_ret ?_
    refine (evS_IfH (c := false) rfl (testD_of (d := .bool (decide (b = 0))) (by kernel_rfl) (by show some (decide _) = _; rw [decide_eq_false (by omega)]))).trans ?_
    refine evSs_ret ((evS_IfH (c := true) rfl (testD_of (d := .bool (decide (b < 0))) (by kernel_rfl) (by show some (decide _) = _; rw [decide_eq_true hb]))).trans ?_)
    refine (evSs_cons (evS_tup (d := .tup [.int q, .int r]) (Γ1 := put (put (bindPs [] ["a", "b"] [.int a, .int b]) "q" (.int q)) "r" (.int r)) rfl rfl (evE_call rfl rfl (each_cons (d := .int (-a)) rfl (by kernel_rfl) (each_cons (d := .int (-b)) (ds := []) rfl (by kernel_rfl) rfl)) hc) (by kernel_rfl))).trans ?_
    exact evSs_ret (evS_RetH rfl (by kernel_rfl))
end Mine

end
section
open PySem PySem.W PyProof.Rows
set_option Elab.async false
set_option maxRecDepth 100000
set_option exponentiation.threshold 10000
namespace Mine

theorem intsOf_map : ∀ l : List Int, intsOf (l.map D.int) = some l
  | [] => rfl
  | i :: l => by
    show (match intsOf (l.map D.int) with
    | some l => some (i :: l)
    | none => none) = _
    rw [intsOf_map l]
theorem mod_D {a b : Int} (hb : b ≠ 0) : binop .Mod (.int a) (.int b) = some (.int (a.fmod b)) := by
  exact if_neg hb
theorem addF_old {X : Nv} {tab : List (Str × Fn)} {H : Hk} {m k n : Nat} {x : Str} {ds : List D} {d : D} (h : X.N x ds = some d) : (addF X tab H m k n).N x ds = some d := by simp only [addF, h]

variable {B : Bs} {L : Nat} {C p1 p2 : Nat}
noncomputable def dRgb : Stmt := defOf "rgb_to_hsv" Pb
noncomputable def dHsv : Stmt := defOf "hsv_to_rgb" Pb
noncomputable def colT : List (Str × Fn) := [("rgb_to_hsv", fnOf dRgb), ("hsv_to_rgb", fnOf dHsv)]
noncomputable def X10 (C p1 p2 : Nat) : Nv := addF (X9c C p1 p2) colT noHk 12 9 12
theorem X10_ok (nv9 : NvOk B L (X9c C p1 p2)) (h1 : GfAt B "rgb_to_hsv" (fnOf dRgb)) (h2 : GfAt B "hsv_to_rgb" (fnOf dHsv)) : NvOk B (L + 1) (X10 C p1 p2) := by
  refine addF_ok nv9 noHk_ok fun x F h => ?_
  unfold colT at h
  simp only [look] at h
  split at h
  · rename_i e; rw [strEq_iff.mp e]; cases h; exact h1
  · split at h
    · rename_i e; rw [strEq_iff.mp e]; cases h; exact h2
    · first | exact nsd h | exact nft h | exact ntf h | cases h
end Mine

end
section
open PySem PySem.W PyProof.Rows
set_option Elab.async false
set_option maxRecDepth 100000
namespace Mine

noncomputable def dOrd : Stmt := defOf "_law_orders" Pb
noncomputable def ord3 : List Str := ["abc", "acb", "bac", "bca", "cab", "cba"]
noncomputable def ord4 : List Str := ["abcd", "abdc", "acbd", "acdb", "adbc", "adcb", "bacd", "badc", "bcad", "bcda", "bdac", "bdca", "cabd", "cadb", "cbad", "cbda", "cdab", "cdba", "dabc", "dacb", "dbac", "dbca", "dcab", "dcba"]
noncomputable def ordN : List D → Option D := fun ds => match sole strOf1 ds with
  | some x => match strEq x "abc" with
    | true => some (.lst (ord3.map D.str))
    | false => match strEq x "abcd" with
      | true => some (.lst (ord4.map D.str))
      | false => none
  | none => none
variable {B : Bs} {L : Nat} {C p1 p2 : Nat}
theorem ord3_run : runF (evS noHk (evE (X10 C p1 p2) 12) 9 12) (fnOf dOrd) [.str "abc"] = some (.lst (ord3.map D.str)) := by kernel_rfl
theorem ord4_run : runF (evS noHk (evE (X10 C p1 p2) 12) 9 12) (fnOf dOrd) [.str "abcd"] = some (.lst (ord4.map D.str)) := by kernel_rfl
noncomputable def X11 (C p1 p2 : Nat) : Nv := orN (X10 C p1 p2) (atN "_law_orders" ordN)
theorem X11_ok (nv : NvOk B L (X10 C p1 p2)) (hf : GfAt B "_law_orders" (fnOf dOrd)) : NvOk B (L + 1) (X11 C p1 p2) := by
  refine orF_ok (H := noHk) (m := 12) (k := 9) (n := 12) nv noHk_ok hf fun ds d h => ?_
  unfold ordN at h
  split at h
  · rename_i x hx
    obtain ⟨dx, rfl, e⟩ := sole_eq hx
    rw [strOf1_eq e]
    clear hx e
    split at h
    · rename_i h1
      rw [strEq_iff.mp h1, ← Option.some.inj h]
      exact ord3_run
    · split at h
      · rename_i h1
        rw [strEq_iff.mp h1, ← Option.some.inj h]
        exact ord4_run
      · exact nsd h
  · exact nsd h
end Mine

end
section
open PySem PySem.W PyProof.Rows
set_option Elab.async false
set_option maxRecDepth 100000
namespace Mine

noncomputable def dKeys : Stmt := defOf "keys" hB
noncomputable def keyM (C : Nat) : Str → D → List D → Option D := fun m o ds => match strEq m "keys" && ds.isEmpty with
  | true => match hdrOf C o with
    | some xs => match pairsOf xs with
      | some ps => match Nat.ble ps.length 1000 with
        | true => some (.lst (ps.map fun p => .str p.1))
        | false => none
      | none => none
    | none => none
  | false => none
theorem keyM_inv {C : Nat} {m : Str} {d r : D} {ds : List D} (h : keyM C m d ds = some r) : ∃ ps : List (Str × Str), m = "keys" ∧ d = .hdr C (ps.map pD) ∧ ds = [] ∧ ps.length ≤ 1000 ∧ r = .lst (ps.map fun p => .str p.1) := by
  unfold keyM at h
  split at h
  · rename_i hm
    obtain ⟨h1, h2⟩ := Bool.and_eq_true_iff.mp hm
    split at h
    · rename_i xs hx
      split at h
      · rename_i ps hps
        split at h
        · rename_i hg
          exact ⟨ps, strEq_iff.mp h1, (hdrOf_eq hx).trans (congrArg (D.hdr C) (pairsOf_eq hps)), List.isEmpty_iff.mp h2, Nat.le_of_ble_eq_true hg, (Option.some.inj h).symm⟩
        · exact nsd h
      · exact nsd h
    · exact nsd h
  · exact nsd h
variable {B : Bs} {K : Frag} {L : Nat} {C p1 p2 : Nat}
theorem keys_run {ps : List (Str × Str)} (h4 : ps.length ≤ 1000) :
    evSs (evS noHk (evE (X11 C p1 p2) 12) 9 12) (stScope dKeys).names (stBody dKeys) (bindPs [] ["self"] [.hdr C (ps.map pD)]) [] = some (.ret (.lst (ps.map fun p => .str p.1)), bindPs [] ["self"] [.hdr C (ps.map pD)], []) := by
  refine evSs_ret (evS_RetH rfl ?_)
  refine evE_comp (d := .lst (ps.map pD)) (xs := ps.map pD) rfl rfl (by kernel_rfl) (evE_attr (d := .hdr C (ps.map pD)) (by kernel_rfl) (natA_ok (C := C) (p1 := p1) (p2 := p2))) rfl (compL_all (f := pD) (g := fun p => .str p.1) fun p hp => ?_) (by rw [List.length_map]; exact Nat.ble_eq_true_of_le h4)
  refine ⟨put (put (freeG (bindPs [] ["self"] [.hdr C (ps.map pD)]) [("k", NameKind.local), ("v", NameKind.local)]) "k" (.str p.1)) "v" (.str p.2), by kernel_rfl, rfl, compI_nil (by kernel_rfl)⟩
noncomputable def X12 (C p1 p2 : Nat) : Nv := orM (X11 C p1 p2) (keyM C)
theorem X12_ok (nv : NvOk B L (X11 C p1 p2)) (kb : KB B K) (hk : HdK K C) {fd : FuncData} (ca : ClsAt B K C "keys" dKeys fd) (hbind : ∀ o, bindArgs fd ⟨[o], []⟩ = pure [(Str.ofString "self", o)]) : NvOk B (L + 1) (X12 C p1 p2) := by
  refine orM_ok (nv.more (Nat.le_succ _)) fun m d ds r h => ?_
  obtain ⟨ps, rfl, rfl, rfl, g, rfl⟩ := keyM_inv h
  obtain ⟨h1, h2⟩ := methOk_of ca.ok
  refine ⟨_, fun A G s E Q ov pl st rd hq => hdr_method kb hk h1 h2 (by decide) st rd hq, ca.fc.keep0, fun A G s vs E Q rm st r hQ => ?_⟩
  obtain ⟨v, rfl, rv⟩ := r.one
  exact run_fb (binds := [(Str.ofString "self", v)]) (ds := [.hdr C (ps.map pD)]) (ca.fc.st st) rfl rfl (fun A' E' Qb hq => by rw [hbind]; exact @wpAny_pure _ _ _ _ _ _ _ hq) (fun p hp => by
    rw [List.mem_singleton.mp hp]; rfl) st (.cons rv .nil) rm (evS_ok nv noHk_ok 12 9 12) (keys_run g) hQ
end Mine

end
section
open PySem PySem.W PyProof.Rows
set_option Elab.async false
set_option maxRecDepth 100000
namespace Mine

theorem Rd.plain {G : Gh} {h : Heap} {v : Value} {d : D} {O' : List Addr} (r : Rd G h v d) (hp : plainD d = true) : Rd { G with O := O' } h v d := by
  cases d <;> first | exact nft hp | skip
  · exact r.noneK .none
  · exact r.boolK (.bool _)
  · exact r.intK fun _ => .int _ _
  · exact r.fltK fun _ h1 h2 h3 => .flt h1 h2 h3
  · exact r.strK fun _ => .str _ _
section
variable {B : Bs} {A : Around} {O0 : List Addr} {G : Gh} {s : Shared} {sc : Kd} {env : Env} {V : List Addr} {Γ Γ' : Gm} {Ω Ω' : Om} {E : Value → Shared → Prop} {L : Nat} {ev : Ev} {X : Nv}
theorem Ke.back {O' : List Addr} {G' : Gh} {s' : Shared} (k : Ke B { G with O := O' } s G' s') : Ke B G s { G' with O := G.O } s' := ⟨k.same, k.kp, k.tg, k.cd, k.sz, rfl, k.n, k.τ, k.tk⟩
theorem peek_ok (ok : OkE B L ev) (rm : Room L A) {e : Expr} {d : D} {Q : Value → Shared → Prop} (f : Fm B O0 G s sc env V Γ Ω) (h : ev sc (frz Γ Ω) e = some d) (hp : plainD d = true) (hQ : Post B G s d Q) : WP B A (eval e env) Q E s := by
  obtain ⟨G1, t1, f1⟩ := f.freeze
  have k1 := t1.kx.kw
  exact ok sc _ e d h A G1 s env E _ rm f1.kn f1.se fun v G2 s2 k2 r2 => hQ v { G2 with O := G.O } s2 ⟨k2.same, k2.kp, k2.tg, k2.cd, k2.sz, rfl, Nat.le_trans k1.n k2.n, fun t ht => (k2.τ t (Nat.lt_of_lt_of_le ht k1.n)).trans (k1.τ t ht), k2.tk⟩ (r2.plain hp)
theorem Fm.lessB (f : Fm B O0 G s sc env V Γ Ω) (h1 : ∀ x d, look Γ' x = some d → look Γ x = some d) (h2 : ∀ x o, look Ω' x = some o → look Ω x = some o) : Fm B O0 G s sc env V Γ' Ω' := by
  obtain ⟨Γp, α, β, se, g1, g2, g3⟩ := f.has
  exact ⟨f.vo, f.oo, f.tb, f.nw, f.ow, f.kn, f.cz, Γp, α, β, se, fun x d hx => g1 x d (h1 x d hx), fun x o hx => g2 x o (h2 x o hx), fun x y o o' hx hy => g3 x y o o' (h2 x o hx) (h2 y o' hy)⟩
end

noncomputable def gridOf : OD → Option (List (List D))
  | .grid rows => some rows
  | _ => none
theorem gridOf_eq {o : OD} {rows : List (List D)} (h : gridOf o = some rows) : o = .grid rows := by
  cases o <;> first | exact nsd h | rw [← Option.some.inj h]
noncomputable def natOf1 (d : D) : Option Nat := (intOf1 d).bind fun i => tst (decide (0 ≤ i)) (some i.toNat)
theorem natOf1_eq {d : D} {n : Nat} (h : natOf1 d = some n) : d = .int n := by
  obtain ⟨i, hi, h⟩ := bnd h
  obtain ⟨h0, h⟩ := tst_inv h
  rw [intOf1_eq hi, ← Option.some.inj h, Int.toNat_of_nonneg (of_decide_eq_true h0)]
noncomputable def gridPut (rows : List (List D)) (i j : Nat) (d : D) : Option (List (List D)) := rows[i]?.bind fun row => tst (Nat.blt j row.length && (Nat.ble i 60 && Nat.ble j 60)) (some (rows.set i (row.set j d)))
noncomputable def gridSet (X : Nv) (q : Nat) (sc : Kd) (Γ : Gm) (Ω : Om) (x : Str) (i j v : Expr) : Option Rs := tst (storable sc x && (!strEq x "__debug__" && !isSlice i)) ((look Ω x).bind fun o => (gridOf o).bind fun rows => (evE X q sc (frz Γ Ω) v).bind fun d => tst (plainD d)
  ((evE X q sc Γ i).bind fun di => (natOf1 di).bind fun i => (evE X q sc Γ j).bind fun dj => (natOf1 dj).bind fun j => (gridPut rows i j d).bind fun rows => some (.nxt, Γ, putA Ω x (.grid rows))))
section
variable {B : Bs} {A : Around} {O0 : List Addr} {G : Gh} {s : Shared} {sc : Kd} {env : Env} {V : List Addr} {Γ : Gm} {Ω : Om} {E : Value → Shared → Prop} {L : Nat} {X : Nv}
theorem RowsAt.get {h : Heap} {as : List Addr} {rows : List (List D)} (x : RowsAt G h as rows) : ∀ {i : Nat} {row : List D}, rows[i]? = some row → ∃ r items n, as[i]? = some r ∧ LstAt h r items n ∧ RdL G h items.toList row := by
  induction x with
  | nil => exact fun e => nsd e
  | cons l r _ ih =>
    intro i row e
    cases i with
    | zero => exact ⟨_, _, _, rfl, l, Option.some.inj e ▸ r⟩
    | succ i => exact ih (i := i) e
theorem RowsAt.set {h h' : Heap} {r : Addr} {items' : Array Value} {n' : Nat} {ds' : List D} (hs : Heap.SameBut r h h') (u : Up G h G h') (hl : LstAt h' r items' n') (hr : RdL G h' items'.toList ds') {as : List Addr} {rows : List (List D)} (x : RowsAt G h as rows) :
    ∀ {i : Nat}, as.Nodup → as[i]? = some r → RowsAt G h' as (rows.set i ds') := by
  have off : ∀ {as : List Addr}, r ∉ as → ∀ a ∈ as, ∀ o, h.get? a = some o → h'.get? a = some o := fun hn a ha o e => (hs.2 a fun q => hn (q ▸ ha)).trans e
  induction x with
  | nil => exact fun _ e => nsd e
  | cons l rr t ih =>
    intro i nd e
    obtain ⟨n1, n2⟩ := List.nodup_cons.mp nd
    cases i with
    | zero =>
      obtain rfl := Option.some.inj e
      exact .cons hl hr (t.up u (off n1))
    | succ i =>
      have hm : r ∈ _ := List.mem_of_getElem? (i := i) e
      exact .cons ((hs.2 _ fun q => n1 (by rw [q]; exact hm)).trans l) (rr.up u) (ih (i := i) n2 e)
theorem gridSet_ok (nv : NvOk B L X) (rm : Room L A) {n : Nat} {x : Str} {px p1 p2 pos : Pos} {i j v : Expr} {r : Rs} {Q : Flow → Shared → Prop} (f : Fm B O0 G s sc env V Γ Ω) (h : gridSet X n sc Γ Ω x i j v = some r) (hQ : PostS B O0 G s sc env V r Q) :
    WP B A (exec (.Assign [.Subscript (.Subscript (.Name x px) i p1) j p2] v pos) env) Q E s := by
  obtain ⟨h0, h1⟩ := tst_inv h
  simp only [Bool.and_eq_true, Bool.not_eq_true'] at h0
  obtain ⟨hx, hdb, his⟩ := h0
  obtain ⟨o, ho, h2⟩ := bnd h1
  obtain ⟨rows, hg, h3⟩ := bnd h2
  rw [gridOf_eq hg] at ho
  obtain ⟨d, hd, h4⟩ := bnd h3
  obtain ⟨hp, h5⟩ := tst_inv h4
  obtain ⟨di, hi, h6⟩ := bnd h5
  obtain ⟨i', e1, h7⟩ := bnd h6
  rw [natOf1_eq e1] at hi
  obtain ⟨dj, hj, h8⟩ := bnd h7
  obtain ⟨j', e2, h9⟩ := bnd h8
  rw [natOf1_eq e2] at hj
  obtain ⟨rows', hr, h10⟩ := bnd h9
  obtain ⟨row, hrow, hr1⟩ := bnd hr
  obtain ⟨hb, hr2⟩ := tst_inv hr1
  simp only [Bool.and_eq_true] at hb
  obtain ⟨b1, b2, b3⟩ := hb
  rw [← Option.some.inj h10, ← Option.some.inj hr2] at hQ
  clear h h1 h2 h3 h4 h5 h6 h7 h8 h9 h10 hr hr1 hr2 hg e1 e2
  have okE := (evE_ok nv n).1
  obtain ⟨a, as, own, ⟨Γp, sep, hpx, _⟩, _, turn⟩ := f.turn ho
  refine ⟨@wpAny_Assign_Subscript _ _ _ _ _ _ _ _ _ _ _ (peek_ok okE rm f hd hp fun v1 G1 s1 k1 r1 => ?_).w (by cases v <;> rfl)⟩
  refine @PyProof.Rows.Subscript_ _ _ _ _ _ _ _ _ _ (load_own (f.ke k1) (sep.ke k1) hpx hx hdb ?_).w
  refine (okE sc Γ i _ hi A G1 s1 env E _ rm f.kn (f.ke k1).se fun iv G2 s2 k2 r2 => ?_).w
  obtain ⟨rs, m, rfl, nd, la, ra⟩ := (turn G2 s2 (k1.trans k2)).1.inv
  obtain ⟨w, itw, mw, hw, -, -⟩ := ra.get hrow
  have hwi : (rs.map Value.ref).toArray[((i' : Nat) : Int).toNat]? = some (.ref w) := by rw [Int.toNat_natCast, List.getElem?_toArray, List.getElem?_map, hw]; rfl
  refine r2.intK fun ti => ?_
  refine @tail_any _ _ _ _ _ _ _ _ _ _ _ _ _ (LstAt.is la).typeIs slot_list_getitem.lookup (@wpAny_getItem_list _ _ _ _ _ _ _ _ _ _ _ (LstAt.is la) (Int.natCast_nonneg _) (idx_lt (N := 61) (Nat.lt_of_le_of_lt (Nat.le_of_ble_eq_true b2) (by decide)) (by decide)) hwi ?_) (sub_plain his _ _)
  refine (okE sc Γ j _ hj A G2 s2 env E _ rm f.kn (f.ke (k1.trans k2)).se fun jv G3 s3 k3 r3 => ?_).w
  refine r3.intK fun tj => ?_
  have k := (k1.trans k2).trans k3
  obtain ⟨od, turn3⟩ := turn G3 s3 k
  obtain ⟨rs', m', he, nd', la', ra'⟩ := od.inv
  obtain rfl := (List.cons.inj he).2
  obtain ⟨w', it, mw', hw', hl, hrd⟩ := ra'.get hrow
  obtain rfl := Option.some.inj (hw.symm.trans hw')
  have hm := List.mem_of_getElem? hw
  have hwa : w ∈ a :: rs := List.mem_cons_of_mem _ hm
  have hwt : w ∉ B.tb := fun q => (own w hwa).2.1 (f.tb w q)
  have hjl : j' < row.length := by have := b1; rwa [Nat.blt_eq] at this
  refine @ki_setAt _ _ _ _ _ _ _ _ _ _ _ _ hl (Int.natCast_nonneg _) (idx_lt (N := 61) (Nat.lt_of_le_of_lt (Nat.le_of_ble_eq_true b3) (by decide)) (by decide)) (by rw [hrd.size]; exact Int.ofNat_lt.mpr hjl) ?_
  have f3 := f.ke k
  have hs' := Heap.SameBut.update s3.heap w (Obj.mapSeq (·.setIfInBounds ((j' : Int)).toNat v1))
  have kw : Kw B [w] G3 s3 G3 { s3 with heap := s3.heap.update w (Obj.mapSeq (·.setIfInBounds ((j' : Int)).toNat v1)) } := Kw.same1 f3.st (List.mem_singleton.mpr rfl) hwt hs' (Nat.le_refl _) hl.nc
  have up := kw.up f3.st fun b hb => by rw [List.mem_singleton.mp hb, k.o]; exact (own w hwa).1
  have hwne : w ≠ a := fun q => (List.nodup_cons.mp nd).1 (q ▸ hm)
  obtain ⟨t4, f4⟩ := turn3 _ (.grid (rows.set i' (row.set j' d))) (kw.mono fun b hb => by rw [List.mem_singleton.mp hb]; exact hwa)
    (.grid nd ((hs'.2 a (Ne.symm hwne)).trans la') (ra'.set hs' up (PySem.IsL.update hl _) (by
      rw [Array.toList_setIfInBounds, Int.toNat_natCast]
      exact RdL.setAt (hrd.up up) ((r1.ke (f.st.ke k1) (k2.trans k3)).up up)) (List.nodup_cons.mp nd).2 hw))
  exact hQ .next G3 _ t4 f4 trivial
end
end Mine

end
section
open PySem PySem.W PyProof.Rows
set_option Elab.async false
set_option maxRecDepth 100000
namespace Mine

noncomputable def plainG : Gm → Gm
  | [] => []
  | (x, d) :: r => cond (plainD d) ((x, d) :: plainG r) (del (plainG r) x)
theorem look_plainG : ∀ {Γ : Gm} {x : Str} {d : D}, look (plainG Γ) x = some d → look Γ x = some d ∧ plainD d = true
  | [], _, _, h => nsd h
  | (y, e) :: r, x, d, h => by
    have ih := @look_plainG r x d
    unfold plainG at h
    unfold look
    cases hp : plainD e with
    | true =>
      rw [hp] at h
      dsimp only [cond] at h
      unfold look at h
      cases hx : strEq x y with
      | true => rw [hx] at h; dsimp only at h ⊢; exact ⟨h, Option.some.inj h ▸ hp⟩
      | false => rw [hx] at h; exact ih h
    | false =>
      rw [hp] at h
      dsimp only [cond] at h
      rw [look_del] at h
      by_cases hxy : x = y
      · rw [if_pos hxy] at h; exact nsd h
      · rw [if_neg hxy] at h
        have hx : strEq x y = false := by cases q : strEq x y with | true => exact absurd (strEq_iff.mp q) hxy | false => rfl
        rw [hx]; exact ih h
noncomputable def gen1 (gens : List Comprehension) : Option (Expr × Expr) := gens.head?.bind fun g => tst (gens.tail.isEmpty && (g.ifs.isEmpty && decide (g.is_async = 0))) (some (g.target, g.iter))
theorem gen1_eq {gens : List Comprehension} {p : Expr × Expr} (h : gen1 gens = some p) : gens = [⟨p.1, p.2, [], 0⟩] := by
  obtain ⟨g, hg, h1⟩ := bnd h
  obtain ⟨hb, h2⟩ := tst_inv h1
  have b1 := Bool.and_eq_true_iff.mp hb
  have b2 := Bool.and_eq_true_iff.mp b1.2
  cases gens with
  | nil => exact nsd hg
  | cons g' r =>
    have e1 : g' = g := Option.some.inj hg
    have e2 : r = [] := List.isEmpty_iff.mp b1.1
    have e3 : ∀ g : Comprehension, g.ifs = [] → g.is_async = 0 → g = ⟨g.target, g.iter, [], 0⟩ := fun ⟨a, b, c, d⟩ q1 q2 => by rw [show c = [] from q1, show d = 0 from q2]
    have e3 := e3 g (List.isEmpty_iff.mp b2.1) (of_decide_eq_true b2.2)
    rw [e1, e2, e3, ← Option.some.inj h2]
noncomputable def gridL (X : Nv) (q : Nat) (names : Kd) (Γ : Gm) (target elt : Expr) : List D → Option (List (List D))
  | [] => some []
  | x :: xs => (bindN names Γ target x).bind fun Γ1 => (evE X q names (plainG Γ1) elt).bind fun d => (lstOf1 d).bind fun l => tst (l.all plainD) ((gridL X q names Γ target elt xs).bind fun ls => some (l :: ls))
noncomputable def gridNew (X : Nv) (q : Nat) (sc : Kd) (Γ : Gm) (Ω : Om) (x : Str) (px : Pos) (v : Expr) : Option Rs := (lcO v).bind fun p => (gen1 p.2.1).bind fun g =>
  tst (decide (look sc x = some .local) && ((px.line == p.2.2.2.line && !(p.2.2.1.names.any fun a => a.1 == x && (a.2 == .local || a.2 == .cell))) && (!isSet g.2 && scopeOk sc p.2.2.1)))
  ((evE X q sc Γ g.2).bind fun d => (iterD d).bind fun xs => (gridL X q p.2.2.1.names (freeG Γ p.2.2.1.names) g.1 p.1 xs).bind fun rows => tst (Nat.ble rows.length 900) (some (.nxt, del Γ x, putA Ω x (.grid rows))))

section
variable {B : Bs} {A : Around} {O0 : List Addr} {G : Gh} {s : Shared} {sc : Kd} {env : Env} {V : List Addr} {Γ : Gm} {Ω : Om} {E : Value → Shared → Prop} {L : Nat} {X : Nv}
structure Rows (b : Nat) (s : Shared) (vs : List Value) (as : List Addr) : Prop where
  eq : vs = as.map Value.ref
  nd : as.Nodup
  lo : ∀ a ∈ as, b ≤ a ∧ a < s.heap.objs.size
theorem Rows.more {b : Nat} {s s' : Shared} {vs : List Value} {as : List Addr} (r : Rows b s vs as) (h : s.heap.objs.size ≤ s'.heap.objs.size) : Rows b s' vs as := ⟨r.eq, r.nd, fun a ha => ⟨(r.lo a ha).1, Nat.lt_of_lt_of_le (r.lo a ha).2 h⟩⟩
theorem Rows.snoc {b : Nat} {s s' : Shared} {vs : List Value} {as : List Addr} {a : Addr} (r : Rows b s vs as) (hb : b ≤ s.heap.objs.size) (h1 : s.heap.objs.size ≤ a) (h2 : a < s'.heap.objs.size) : Rows b s' (vs ++ [.ref a]) (as ++ [a]) := by
  refine ⟨by rw [r.eq, List.map_append]; rfl, ?_, fun c hc => ?_⟩
  · rw [List.nodup_append]
    refine ⟨r.nd, by simp, fun c hc d hd => ?_⟩
    rw [List.mem_singleton.mp hd]
    exact fun q => Nat.not_lt.mpr h1 (q ▸ (r.lo c hc).2)
  · rcases List.mem_append.mp hc with q | q
    · exact ⟨(r.lo c q).1, Nat.lt_trans (Nat.lt_of_lt_of_le (r.lo c q).2 h1) h2⟩
    · rw [List.mem_singleton.mp q]; exact ⟨Nat.le_trans hb h1, h2⟩
noncomputable def GP (X : Nv) (q : Nat) (names : Kd) (Γ : Gm) (target elt : Expr) (b : Nat) (tot : List D) (xs : List D) (_ : Gh) (s : Shared) (items : Array Value) (ds : List D) : Prop :=
  ∃ rows as, gridL X q names Γ target elt xs = some rows ∧ ds ++ rows.map D.lst = tot ∧ b ≤ s.heap.objs.size ∧ Rows b s items.toList as
theorem Sees.plain {O' : List Addr} (se : Sees B G s env Γ) (st : St B { G with O := O' } s) : Sees B { G with O := O' } s env (plainG Γ) := by
  refine ⟨st, se.kind, se.glob, se.blt, se.lo, ?_, fun x hx => ?_⟩
  · obtain ⟨m, hm, hd⟩ := se.ns
    refine ⟨m, hm, fun x d hx hk => ?_⟩
    obtain ⟨h1, h2⟩ := look_plainG hx
    obtain ⟨v, hv, r⟩ := hd x d h1 hk
    exact ⟨v, hv, r.plain h2⟩
  · obtain ⟨c, hc, hct, hcz, hd⟩ := se.cl x hx
    refine ⟨c, hc, hct, hcz, fun d hxd => ?_⟩
    obtain ⟨h1, h2⟩ := look_plainG hxd
    obtain ⟨v, hv, r⟩ := hd d h1
    exact ⟨v, hv, r.plain h2⟩
theorem fresh_ok {ev : Ev} (ok : OkE B L ev) (rm : Room L A) (kn : Kn sc env) (se : Sees B G s env Γ) {e : Expr} {l : List D} {Q : Value → Shared → Prop} (h : ev sc (plainG Γ) e = some (.lst l))
    (hQ : ∀ a G' s', Ke B G s G' s' → Rd G' s'.heap (.ref a) (.lst l) → s.heap.objs.size ≤ a → a < s'.heap.objs.size → Q (.ref a) s') : WP B A (eval e env) Q E s := by
  have st : St B { G with O := List.range s.heap.objs.size } s := ⟨se.st.kp, se.st.tg, fun a ha => List.mem_range.mpr (se.st.lt a (se.st.sub a ha)), fun a ha => List.mem_range.mp ha, se.st.tk, se.st.pos⟩
  refine ok sc _ e _ h A _ s env E _ rm kn (se.plain st) fun v G2 s2 k2 r2 => ?_
  have r3 : Rd { G2 with O := G.O } s2.heap v (.lst l) := r2.up (Up.free fun a ha => k2.o ▸ List.mem_range.mpr (se.st.lt a ha))
  refine r2.lstK (P := fun v => Rd { G2 with O := G.O } s2.heap v (.lst l) → Q v s2) (fun a items n ha hl _ r3 => hQ a _ s2 k2.back r3 ?_ (Heap.lt_size hl)) r3
  exact Nat.not_lt.mp fun q => ha (k2.o ▸ List.mem_range.mpr q)
theorem gp_step (nv : NvOk B L X) {q : Nat} {names : Kd} {cv : Env} {W : List Addr} {acc : Addr} {target elt : Expr} {b : Nat} {tot : List D} (hlen : tot.length ≤ 900) (x : D) (xs : List D) (G : Gh) (s : Shared) (items : Array Value) (ds : List D)
    (h : GP X q names Γ target elt b tot (x :: xs) G s items ds) : Step B L (evE X q) names cv W [] acc target [] Γ x (GP X q names Γ target elt b tot (x :: xs)) (GP X q names Γ target elt b tot xs) (emitT (.ref acc) elt cv) := by
  obtain ⟨rows, -, h, -⟩ := h
  obtain ⟨Γ1, hb, -⟩ := bnd h
  refine .yes Γ1 hb rfl fun A G s items n ds E Q hgp rm kn se ow hacc haW ha0 hc hl rl hQ => ?_
  obtain ⟨rows, as, h, he, hbs, hR⟩ := hgp
  obtain ⟨Γ2, hb2, h1⟩ := bnd h
  obtain rfl := Option.some.inj (hb.symm.trans hb2)
  obtain ⟨d, hd, h2⟩ := bnd h1
  obtain ⟨l, hl1, h3⟩ := bnd h2
  rw [lstOf1_eq hl1] at hd
  obtain ⟨-, h3⟩ := tst_inv h3
  obtain ⟨ls, hls, h4⟩ := bnd h3
  have h5 := Option.some.inj h4
  clear h h1 h2 h3 h4 hl1 d hb2
  subst h5
  unfold emitT
  refine WP.bind (fresh_ok (evE_ok nv q).1 rm kn se hd fun a G1 s1 k1 r1 ha1 ha2 => ?_)
  have st1 := se.st.ke k1
  have hat := not_tb ha0
  have hl1 : LstAt s1.heap acc items n := lst_kw hl k1 (fun h => nomatch h) hat
  have hacc1 : acc ∈ G1.O := by rw [k1.o]; exact hacc
  have rl1 := rl.ke se.st k1
  have hlen1 := congrArg List.length he
  rw [List.length_append, List.length_map, List.length_cons] at hlen1
  refine WP.bind ⟨@wpAny_list_append_plain _ _ _ _ _ _ _ _ _ ⟨n, hl1⟩ (fun h' hp hs => ?_) (by rw [rl1.size, sizeLine_eq]; omega)⟩
  obtain ⟨n', hp⟩ := hp
  have k2 : Kw B [acc] G1 s1 G1 { s1 with heap := h' } := Kw.same1 st1 (List.mem_singleton.mpr rfl) hat hs (Nat.le_refl _) hl1.nc
  have hW2 : ∀ a ∈ [acc], a ∈ G1.O := fun a ha => by rw [List.mem_singleton.mp ha]; exact hacc1
  have up2 := k2.up st1 hW2
  have hc2 : ∀ y c, cv.cells.lookup y = some c → c ∉ [acc] := fun y c hy q => (hc y c hy).1 (List.mem_singleton.mp q)
  refine WP.pure (hQ G1 _ (items.push (.ref a)) n' (ds ++ [.lst l]) ((Kw.of_ke k1).trans (k2.mono fun a ha => by rw [List.mem_singleton.mp ha]; exact List.mem_cons_self)) ((se.ke k1).kw k2 hW2 (fun a ha => by rw [List.mem_singleton.mp ha]; exact ha0) (fun q => haW (List.mem_singleton.mp q ▸ ow.loc)) hc2)
    ((ow.ke k1).kw k2 fun y c hy hc' => hc2 y c hc') hp ?_ ⟨ls, as ++ [a], hls, by rw [List.append_assoc]; exact he, Nat.le_trans hbs (Nat.le_trans k1.sz k2.sz), ?_⟩)
  · rw [Array.toList_push]
    exact (rl1.up up2).snoc (r1.up up2)
  · rw [Array.toList_push]
    exact hR.snoc hbs ha1 (Nat.lt_of_lt_of_le ha2 k2.sz)
end
end Mine

end
section
open PySem PySem.W PyProof.Rows
set_option Elab.async false
set_option maxRecDepth 100000
namespace Mine

section
variable {B : Bs} {A : Around} {O0 : List Addr} {G : Gh} {s : Shared} {sc : Kd} {env : Env} {V : List Addr} {Γ : Gm} {Ω : Om} {E : Value → Shared → Prop} {L : Nat} {X : Nv}
theorem gridL_plain {q : Nat} {names : Kd} {target elt : Expr} : ∀ {xs : List D} {rows : List (List D)}, gridL X q names Γ target elt xs = some rows → ∀ row ∈ rows, row.all plainD = true
  | [], _, h, row, hr => by rw [← Option.some.inj h] at hr; cases hr
  | x :: xs, rows, h, row, hr => by
    obtain ⟨_, -, h⟩ := bnd h
    obtain ⟨_, -, h⟩ := bnd h
    obtain ⟨l, -, h⟩ := bnd h
    obtain ⟨hp, h⟩ := tst_inv h
    obtain ⟨ls, hl, h⟩ := bnd h
    rw [← Option.some.inj h] at hr
    rcases List.mem_cons.mp hr with q | q
    · rw [q]; exact hp
    · exact gridL_plain hl row q
theorem RdL.plain {h : Heap} {O' : List Addr} : ∀ {vs : List Value} {ds : List D}, RdL G h vs ds → ds.all plainD = true → RdL { G with O := O' } h vs ds
  | _, [], r, _ => r.nilK .nil
  | _, d :: ds, r, hp => by
    rw [List.all_cons, Bool.and_eq_true] at hp
    exact r.consK fun _ _ a b => .cons (a.plain hp.1) (RdL.plain b hp.2)
theorem rowsAt_of {h : Heap} {O' : List Addr} {as : List Addr} {rows : List (List D)} (r : RdL G h (as.map Value.ref) (rows.map D.lst)) (hp : ∀ row ∈ rows, row.all plainD = true) : RowsAt { G with O := O' } h as rows ∧ ∀ a ∈ as, a ∉ G.O := by
  induction as generalizing rows with
  | nil => cases rows with
    | nil => exact ⟨.nil, fun _ h => nomatch h⟩
    | cons row rows => exact nomatch r
  | cons a as ih => cases rows with
    | nil => exact nomatch r
    | cons row rows =>
      cases r with
      | cons x y =>
        obtain ⟨h1, h2⟩ := ih y fun r hr => hp r (List.mem_cons_of_mem _ hr)
        obtain ⟨items, n, h3, h4⟩ := x.lstV
        refine ⟨.cons h3 (h4.plain (hp row List.mem_cons_self)) h1, fun b hb => ?_⟩
        rcases List.mem_cons.mp hb with q | q
        · rw [q]
          exact x.inv (fun v => ∀ c, v = .ref c → c ∉ G.O) (fun _ _ _ hc _ _ _ e => Value.ref.inj e ▸ hc) a rfl
        · exact h2 b q
theorem gridNew_ok (nv : NvOk B L X) (rm : Room L A) {n : Nat} {x : Str} {px pos : Pos} {v : Expr} {r : Rs} {Q : Flow → Shared → Prop} (f : Fm B O0 G s sc env V Γ Ω) (h : gridNew X n sc Γ Ω x px v = some r) (hQ : PostS B O0 G s sc env V r Q) :
    WP B A (exec (.Assign [.Name x px] v pos) env) Q E s := by
  obtain ⟨⟨elt, gens, scope, cp⟩, h1, h2⟩ := bnd h
  obtain ⟨⟨t, it⟩, h3, h4⟩ := bnd h2
  obtain rfl := lcO_eq h1
  obtain rfl := gen1_eq h3
  obtain ⟨h5, h6⟩ := tst_inv h4
  simp only [Bool.and_eq_true] at h5
  obtain ⟨c1, ⟨c2, c3⟩, c4, c5⟩ := h5
  obtain ⟨d, hd, h7⟩ := bnd h6
  obtain ⟨xs, hxs, h8⟩ := bnd h7
  obtain ⟨rows, hrows, h9⟩ := bnd h8
  obtain ⟨hlen, h10⟩ := tst_inv h9
  rw [← Option.some.inj h10] at hQ
  clear h h1 h2 h3 h4 h6 h7 h8 h9 h10
  have hloc := of_decide_eq_true c1
  have hset : isSet it = false := by simpa using c4
  obtain ⟨k1, k2, k3⟩ := scopeOk_inv c5
  have hs : swapsWith (.ListComp elt [⟨t, it, [], 0⟩] scope cp) (some (.Name x px)) pos.line env = pure true := by
    have e1 : env.blockKind = .function := by unfold Env.blockKind; rw [f.se.kind]; rfl
    show (pure (env.blockKind == .function && env.kindOf x == some .local && px.line == cp.line && !(scope.names.any fun (n, k) => n == x && (k == .local || k == .cell))) : Sem Bool) = pure true
    rw [e1, f.ow.kl x hloc, c2]
    exact congrArg pure c3
  have hx : storable sc x = true := by unfold storable; rw [hloc]
  rw [exec_Assign_Name_used _ _ _ _ hs]
  refine WP.bind (WP.standAt (WP.bind ?_))
  show WP B A (do let _ ← comprehension (.ListComp elt [⟨t, it, [], 0⟩] scope cp) scope env (firstIterPos [⟨t, it, [], 0⟩] cp) (newList []) false (eval it env) (some (assign (.Name x px) env))) _ E s
  refine WP.bind (comp_gen (W0 := []) (P := GP X n scope.names (freeG Γ scope.names) t elt s.heap.objs.size (rows.map D.lst)) (use := some (assign (.Name x px) env)) (Q := fun _ s' => WP B A (pure ()) (fun _ s'' => WP B A (pure Flow.next) Q E s'') E s') (evE_ok nv n).1 (evE_ok nv n).2 rm f.kn f.se hset k1 k2 k3 (fun _ _ h => h) hd hxs (fun _ h => nomatch h)
    (fun _ _ _ _ _ _ _ _ _ _ _ hgp k => by
      obtain ⟨rs, as, a1, a2, a3, a4⟩ := hgp
      exact ⟨rs, as, a1, a2, Nat.le_trans a3 k.sz, a4.more k.sz⟩) (fun G1 s1 k _ => ⟨rows, [], hrows, rfl, k.sz, rfl, .nil, fun _ h => nomatch h⟩)
    (fun cv W acc _ _ _ _ => ⟨_, gp_step nv (by rw [List.length_map]; exact Nat.le_of_ble_eq_true hlen), fun I => compTurn_emit rfl rfl⟩) fun G2 s2 acc C items m out kx hsub hacc hC haO hCO hne hl rl p hns => ?_)
  obtain ⟨rs, as, e1, e2, hb, hR⟩ := p
  rw [← Option.some.inj e1, List.map_nil, List.append_nil] at e2
  subst e2
  rw [hR.eq] at rl
  obtain ⟨ra, hn⟩ := rowsAt_of (O' := acc :: as ++ [C] ++ G.O) rl (gridL_plain hrows)
  have hl' : LstAt s2.heap acc (as.map Value.ref).toArray m := by rw [← hR.eq, Array.toArray_toList]; exact hl
  have hCt : C ∉ B.tb := Mine.not_tb (f.st.fresh0 hC)
  have h0 := f.st.fresh0 hC
  have hc : ∀ y c, env.cells.lookup y = some c → c ≠ C := fun y c hy q => Nat.not_lt.mpr hC (q ▸ f.cz y c hy)
  show wpAny B.M A (assign (.Name x px) env (.ref acc)) _ E s2
  refine @wpAny_assign_Name _ _ _ _ _ _ _ _ _ (f.newOwn (as := acc :: as) (Z := [C]) kx.kw (fun b hb => ?_) (fun b hb q => ?_) (.grid (List.nodup_cons.mpr ⟨fun q => hn acc q haO, hR.nd⟩) hl' ra) hx fun s4 k4 t4 f4 => ?_).w
  · rcases List.mem_append.mp hb with q | q
    · rcases List.mem_cons.mp q with q | q
      · rw [q]; exact ⟨hacc, kx.lt acc haO⟩
      · exact hR.lo b q
    · rw [List.mem_singleton.mp q]; exact ⟨hC, kx.lt C hCO⟩
  · have q := List.mem_singleton.mp q
    rcases List.mem_cons.mp hb with w | w
    · exact hne (w.symm.trans q)
    · exact hn b w (q ▸ hCO)
  · obtain ⟨mm, hm⟩ := hns
    have hm4 : s4.heap.Ns C mm := k4.kp.ns (fun q => (List.mem_append.mp q).elim (fun q => Nat.not_lt.mpr hC (f.st.lt C (f.ow.sub C q))) hCt) hm
    refine ⟨mm, hm4, fun h' hs' => WP.pure (WP.pure ?_)⟩
    have k5 : Kw B [C] { G2 with O := acc :: as ++ [C] ++ G.O } s4 { G2 with O := acc :: as ++ [C] ++ G.O } { s4 with heap := h' } := Kw.same1 f4.st (List.mem_singleton.mpr rfl) hCt hs' (Nat.le_refl _) (.ns hm4)
    exact hQ .next _ _ (t4.kwI f4.st k5 hC) ((f4.kwI k5 hc h0).closeI h0) trivial
end
noncomputable def hkGrid (X : Nv) (q : Nat) : Hk := ⟨fun sc Γ Ω st => (asgO st).bind fun p => (solo p.1).bind fun t => orE (nameOf t) (fun x => tst (strEq x "alike") (gridNew X q sc Γ Ω x t.pos p.2.1))
  ((subO t).bind fun b => (subO b.1).bind fun c => (nameOf c.1).bind fun x => gridSet X q sc Γ Ω x c.2.1 b.2.1 p.2.1)⟩
theorem hkGrid_ok {B : Bs} {L : Nat} {X : Nv} (nv : NvOk B L X) (q : Nat) : OkS B L (hkGrid X q).S := by
  intro sc Γ Ω st r h A O0 G s env V E Q rm f hQ
  obtain ⟨p, h1, h2⟩ := bnd h
  obtain ⟨t, ht, h3⟩ := bnd h2
  rw [asgO_eq h1, solo_eq ht]
  refine orE_inv h3 (fun x hx h4 => ?_) fun h4 => ?_
  · obtain ⟨px, e⟩ := nameOf_some hx
    rw [e] at h4 ⊢
    exact gridNew_ok nv rm f (tst_inv h4).2 hQ
  · obtain ⟨b, h5, h6⟩ := bnd h4
    obtain ⟨c, h7, h8⟩ := bnd h6
    obtain ⟨x, hx, h9⟩ := bnd h8
    obtain ⟨px, e⟩ := nameOf_some hx
    rw [subO_eq h5, subO_eq h7, e]
    exact gridSet_ok nv rm f h9 hQ
end Mine

end
section
open PySem PySem.W PyProof.Rows
set_option Elab.async false
set_option maxRecDepth 100000
namespace Mine

section
variable {B : Bs} {A : Around} {O0 : List Addr} {G G1 G2 : Gh} {s s1 s2 : Shared} {sc : Kd} {env : Env} {V W : List Addr} {Γ : Gm} {E : Value → Shared → Prop} {L : Nat} {X : Nv} {K : Frag} {C : Addr}
theorem kx_tr (k : Kx B W G s G1 s1) (t : Tr B G.O G1 s1 G2 s2) : Kx B W G s G2 s2 := k.trans t.kx fun b hb => (k.o b (mem_Wn.mp hb).1).elim (fun q => absurd q (mem_Wn.mp hb).2) .inr
structure HdAt (C : Addr) (G : Gh) (h : Heap) (a dx l : Addr) (xs : List D) : Prop where
  ob : h.get? a = some ({ cls := .ref C, dict := some dx, data := .plain } : Obj)
  ne : dx ≠ a
  ns : h.Ns1 dx (fun x => if x = ("_headers" : Str) then some (.ref l) else none)
  ls : ∃ items n, LstAt h l items n ∧ RdL G h items.toList xs
theorem HdAt.od {h : Heap} {a dx l : Addr} {xs : List D} (x : HdAt C G h a dx l xs) : OdAt G h a [a, dx, l] (.hdr C xs) := by
  obtain ⟨_, _, h1, h2⟩ := x.ls
  exact .hdr x.ob x.ne x.ns h1 h2
theorem HdAt.of {h : Heap} {a : Addr} {as : List Addr} {xs : List D} (x : OdAt G h a as (.hdr C xs)) : ∃ dx l, as = [a, dx, l] ∧ HdAt C G h a dx l xs := by
  obtain ⟨dx, l, _, _, e, h1, h2, h3, h4, h5⟩ := x.inv
  exact ⟨dx, l, e, h1, h2, h3, _, _, h4, h5⟩
theorem HdAt.up {h h' : Heap} {a dx l : Addr} {xs : List D} (x : HdAt C G h a dx l xs) (u : Up G h G1 h') (k : ∀ b ∈ [a, dx, l], ∀ o, h.get? b = some o → h'.get? b = some o) : HdAt C G1 h' a dx l xs := by
  obtain ⟨dx', l', e, r⟩ := HdAt.of (x.od.up u k)
  simp only [List.cons.injEq, and_true, true_and] at e
  rw [e.1, e.2]; exact r
theorem HdAt.ne3 {h : Heap} {a dx l : Addr} {xs : List D} (x : HdAt C G h a dx l xs) : a ≠ l ∧ dx ≠ l ∧ ∀ b ∈ [a, dx, l], ∀ i n, ¬ TupAt h b i n := by
  obtain ⟨items, n, hl, -⟩ := x.ls
  obtain ⟨o, es, ep, e, hd, -⟩ := x.ns
  have h1 : a ≠ l := fun q => by have := x.ob; rw [q, hl] at this; cases this
  have h2 : dx ≠ l := fun q => by rw [q, hl] at e; cases e; cases hd
  refine ⟨h1, h2, fun b hb i m ht => ?_⟩
  have kd : ∀ {T U : String}, T ≠ U → Value.type T ≠ Value.type U := fun h q => h (Value.type.inj q)
  rcases List.mem_cons.mp hb with q | hb
  · have := x.ob; rw [q] at ht; rw [ht] at this; cases this
  rcases List.mem_cons.mp hb with q | hb
  · rw [q] at ht; rw [ht] at e; cases e; cases hd
  · rw [List.mem_singleton.mp hb] at ht
    exact kd (by decide) (congrArg Obj.cls (Option.some.inj (hl.symm.trans ht)))
theorem HdAt.rdv {a dx l : Addr} {xs : List D} (h : HdAt C G s.heap a dx l xs) (st : St B G s) (hb : ∀ b ∈ [a, dx, l], b ∉ B.tb) :
    ∃ O', St B { G with O := O' } s ∧ Rd { G with O := O' } s.heap (.ref a) (.hdr C xs) ∧ (∀ c ∈ O', c ∈ G.O) ∧ ∀ c ∈ G.O, c ∈ O' ∨ c ∈ [a, dx, l] := by
  have hsub : ∀ c ∈ G.O.filter (fun c => decide (c ∉ [a, dx, l])), c ∈ G.O := fun c hc => (List.mem_filter.mp hc).1
  have up := Up.free (h := s.heap) hsub
  refine ⟨_, st.free hsub fun c hc => List.mem_filter.mpr ⟨st.sub c hc, decide_eq_true fun q => hb c q hc⟩, (h.up up fun _ _ _ e => e).od.rd fun b hb m => of_decide_eq_true (List.mem_filter.mp m).2 hb, hsub, fun c hc => ?_⟩
  by_cases q : c ∈ [a, dx, l]
  · exact .inr q
  · exact .inl (List.mem_filter.mpr ⟨hc, decide_eq_true q⟩)
theorem HdAt.view {a dx l : Addr} {xs : List D} {x : Str} (h : HdAt C G s.heap a dx l xs) (se : Sees B G s env Γ) (hb : ∀ b ∈ [a, dx, l], b ∉ B.tb) (hx : look Γ x = some (.ref a)) :
    ∃ O', Sees B { G with O := O' } s env (put Γ x (.hdr C xs)) ∧ ∀ c ∈ G.O, c ∈ O' ∨ c ∈ [a, dx, l] :=
  let ⟨O', st, r, hs, ho⟩ := h.rdv se.st hb
  ⟨O', (se.gh st (Up.free hs)).know hx r, ho⟩
theorem tup_back {h : Heap} {v : Value} {ds : List D} {O' T : List Addr} (r : Rd { G with O := O' } h v (.tup ds)) (hp : ds.all plainD = true) (hT : ∀ b ∈ T, ∀ i n, ¬ TupAt h b i n) (hO : ∀ c ∈ G.O, c ∈ O' ∨ c ∈ T) : Rd G h v (.tup ds) := by
  refine r.tupK fun a items n ha ht hd => .tup (fun m => ?_) ht (hd.plain hp)
  rcases hO a m with q | q
  · exact ha q
  · exact hT a q _ _ ht
theorem HdAt.attr (kb : KB B K) (hk : HdK K C) (st : St B G s) {a dx l : Addr} {xs : List D} {ex : Bool} {Q : Value → Shared → Prop} (h : HdAt C G s.heap a dx l xs) (hQ : Q (.ref l) { s with toks := s.toks + 1 }) : WP B A (getAttr (.ref a) "_headers" ex) Q E s := by
  obtain ⟨o, es, ep, e, hdt, sk, uk, hf⟩ := h.ns
  exact ⟨@get_value _ _ _ _ _ _ _ _ _ _ _ _ _ _ (kb.st st) ⟨h.ob, rfl, rfl, e⟩ hk.ga (findObj_own hk.hd hk.fa rfl (by rw [lookIn_ns hdt sk hf, if_pos rfl])) rfl hQ⟩

theorem setdef_ok (nv : NvOk B L X) (kb : KB B K) (hk : HdK K C) {q kk mm : Nat} {fS : Addr} {fd : FuncData} {body : List Stmt} {scope : Scope} {sn nn vn rn : Str} {te ae ce : Expr} {s4 s5 : Stmt} {p1 p2 p3 p4 p5 p6 p7 p8 : Pos} {ps : List (Str × Str)} {n v : Str} {o : Option Str}
    (fc0 : FcAt B B.h0 fS body scope [] fd) (hsc : scOk scope = true) (hnf : noFree scope.names = true) (hst : ∀ x ∈ [sn, nn, vn], storable scope.names x = true) (hrn : storable scope.names rn = true) (hbind : ∀ u v w, bindArgs fd ⟨[u, v, w], []⟩ = pure [(sn, u), (nn, v), (vn, w)])
    (hb : body = [.Assign [.Name rn p1] ce p2, .If te [.Expr (.Call (.Attribute (.Attribute (.Name sn p3) "_headers" p4) "append" p5) [ae] [] p6) p7, s4] [s5] p8]) (hcc : isComp ce = false) (htc : isTup ce = false) (hae : isStar ae = false) (hline : (p5.endLine == p6.line) = true)
    (hl1 : ∀ d, look (bindPs [] [sn, nn, vn] [d, .str n, .str v]) sn = some d) (hl2 : ∀ a, look (put (bindPs [] [sn, nn, vn] [.ref a, .str n, .str v]) rn (oD o)) sn = some (.ref a))
    (he1 : ∀ a, evE X q scope.names (put (bindPs [] [sn, nn, vn] [.ref a, .str n, .str v]) sn (.hdr C (ps.map pD))) ce = some (oD o))
    (he2 : ∀ a, evE X q scope.names (put (bindPs [] [sn, nn, vn] [.ref a, .str n, .str v]) rn (oD o)) te = some (.bool o.isNone))
    (he3 : ∀ a, o = none → evE X q scope.names (put (put (bindPs [] [sn, nn, vn] [.ref a, .str n, .str v]) rn (oD o)) sn (.hdr C (ps.map pD))) ae = some (pD (n, v)))
    (hes : ∀ a, evE X q scope.names (put (bindPs [] [sn, nn, vn] [.ref a, .str n, .str v]) rn (oD o)) (.Name sn p3) = some (.ref a))
    (he4 : ∀ a, ∃ Γ4, evSs (evS noHk (evE X q) kk (mm + 2)) scope.names [s4] (put (bindPs [] [sn, nn, vn] [.ref a, .str n, .str v]) rn (oD o)) [] = some (.ret (.str v), Γ4, []))
    (he5 : ∀ a, ∃ Γ4, evSs (evS noHk (evE X q) kk (mm + 2)) scope.names [s5] (put (bindPs [] [sn, nn, vn] [.ref a, .str n, .str v]) rn (oD o)) [] = some (.ret (oD o), Γ4, []))
    {a dx l : Addr} {nvv vvv : Value} {Q : Value → Shared → Prop} (rm : Room (L + 1) A) (st : St B G s) (hT : ∀ b ∈ [a, dx, l], b ∈ G.O ∧ B.h0.get? b = none) (hd : HdAt C G s.heap a dx l (ps.map pD)) (hlen : ps.length ≤ 900) (r1 : Rd G s.heap nvv (.str n)) (r2 : Rd G s.heap vvv (.str v))
    (hQ : ∀ w G' s', Kw B [a, dx, l] G s G' s' → Rd G' s'.heap w (.str (o.getD v)) → HdAt C G' s'.heap a dx l ((ps ++ (cond o.isNone [(n, v)] [])).map pD) → Q w s') : WP B A (call (.ref fS) [.ref a, nvv, vvv]) Q E s := by
  have okS := evS_ok (H := noHk) nv noHk_ok q kk (mm + 2)
  have okE := (evE_ok nv q).1
  have okT := (evE_ok nv q).2
  have hTt : ∀ b ∈ [a, dx, l], b ∉ B.tb := fun b hb => not_tb (hT b hb).2
  have hlT : l ∈ [a, dx, l] := List.mem_cons_of_mem _ (List.mem_cons_of_mem _ List.mem_cons_self)
  refine enter_fb (m := L) (binds := [(sn, .ref a), (nn, nvv), (vn, vvv)]) (ds := [.ref a, .str n, .str v]) (fc0.st st) hsc (fun A' E' Qb hq => by rw [hbind]; exact @wpAny_pure _ _ _ _ _ _ _ hq) (fun p hp => ?_) st (Clo.none hnf) (.cons (.ref a) (.cons r1 (.cons r2 .nil))) rm fun env G1 s1 V Q1 E1 f1 kx hO hV _ _ hcells hq1 _ rm1 => ?_
  · refine hst p.1 ?_
    rcases List.mem_cons.mp hp with e | hp
    · rw [e]; exact List.mem_cons_self
    rcases List.mem_cons.mp hp with e | hp
    · rw [e]; exact List.mem_cons_of_mem _ List.mem_cons_self
    rw [List.mem_singleton.mp hp]; exact List.mem_cons_of_mem _ (List.mem_cons_of_mem _ List.mem_cons_self)
  -- the table stands through the frame's own steps
  have keep : ∀ {G2 G3 : Gh} {s2 s3 : Shared} {xs : List D}, St B G2 s2 → HdAt C G2 s2.heap a dx l xs → Tr B G.O G2 s2 G3 s3 → HdAt C G3 s3.heap a dx l xs := fun st2 h t => h.up (t.up st2) fun b hb o e => t.kx.kw.kp b o (fun m => (List.mem_append.mp m).elim (fun m => (mem_Wn.mp m).2 (hT b hb).1) (hTt b hb)) e
  have hd1 : HdAt C G1 s1.heap a dx l (ps.map pD) := hd.up (kx.up st fun _ h => nomatch h) fun b hb o e => kx.kw.kp b o (fun m => hTt b hb (by simpa using m)) e
  have hcl : ∀ y c, env.cells.lookup y = some c → c ≠ l := fun y c hy q => by
    rcases hcells y c hy with w | w
    · exact Nat.not_lt.mpr (hV c w) (q ▸ st.lt l (hT l hlT).1)
    · cases w
  rw [hb]
  obtain ⟨O1, se1, -⟩ := hd1.view f1.se hTt (hl1 _)
  refine ⟨@wpAny_execs_cons _ _ _ _ _ _ _ _ (assign_plain (swaps_not hcc) (by cases ce <;> first | exact nft htc.symm | rfl) rfl (okE scope.names _ ce _ (he1 a) _ _ s1 env E1 _ rm1 f1.kn se1 fun w G2 s2 k2 r2 => ?_)).w⟩
  have k2 := k2.back
  have f2 := f1.ke k2
  refine ⟨@wpAny_assign_Name _ _ _ _ _ _ _ _ _ (f2.stored hrn (r2.plain (by cases o <;> rfl)) fun s3 t3 f3 => ?_).w⟩
  have t13 := (Tr.ke f1.st k2).trans t3
  have hd3 := keep f1.st hd1 t13
  refine @wpAny_execs_cons _ _ _ _ _ _ _ _ (@wpAny_If _ _ _ _ _ _ _ _ _ _ (okT scope.names _ te _ o.isNone (he2 a) rfl _ _ s3 env E1 _ rm1 f3.kn f3.se fun G4 s4 k4 => ?_).w)
  have f4 := f3.ke k4
  have t14 := t13.trans (Tr.ke f3.st k4)
  have hd4 := keep f1.st hd1 t14
  have kx4 := kx_tr (kx.mono (W' := [a, dx, l]) fun _ h => nomatch h) t14
  cases o with
  | some u =>
    rw [if_neg (by simp)]
    obtain ⟨Γ4, h5⟩ := he5 a
    refine (ss_ok okS rm1 h5 f4 fun fl G5 s5 t5 f5 hfl => ?_).w
    cases fl <;> first | exact False.elim hfl | skip
    exact hq1 _ _ (hQ _ { G5 with O := G.O } s5 (kx_tr kx4 t5).kw (hfl.up (Up.free f5.oo)) ((keep f4.st hd4 t5).up (Up.free f5.oo) (fun _ _ _ e => e) |> fun h => by rw [show (some u).isNone = false from rfl]; simpa using h))
  | none =>
    rw [if_pos (show (none : Option Str).isNone = true from rfl)]
    have hi := interactive_no f4
    refine @wpAny_execs_cons _ _ _ _ _ _ _ _ ?_
    rw [exec_Expr env _ _ hi rfl]
    refine (WP.bind (WP.standAt (WP.bind ?_)) : WP B _ _ _ _ _).w
    rw [arm_eval_Call, base_plain rfl]
    refine WP.bind ⟨@Attribute_name _ _ _ _ _ _ _ _ _ _ (okE scope.names _ _ _ (hes a) _ G4 s4 env E1 _ rm1 f4.kn f4.se fun v5 G5 s5 k5 r5 => ?_).w⟩
    obtain rfl := r5.refI
    have f5 := f4.ke k5
    have hd5 := keep f4.st hd4 (Tr.ke f4.st k5)
    refine (hd5.attr kb hk f5.st ?_).w
    have k6 : Ke B G5 s5 G5 { s5 with toks := s5.toks + 1 } := .tok f5.st (Nat.le_succ _)
    have f6 := f5.ke k6
    have hd6 := keep f5.st hd5 (Tr.ke f5.st k6)
    refine WP.bind (WP.standAt ?_)
    obtain ⟨it6, m6, hl6, -⟩ := hd6.ls
    obtain ⟨O6, se6, hO6⟩ := hd6.view f6.se hTt (hl2 a)
    have heach : each (evE X q scope.names (put (put (bindPs [] [sn, nn, vn] [.ref a, .str n, .str v]) rn (oD none)) sn (.hdr C (ps.map pD)))) [ae] = some [pD (n, v)] := by simp only [each, hae, he3 a rfl]
    have hform : methodCallForm ([ae].length + ([] : List Keyword).length) (backTo p6 (starEach [ae] env)) (backToKw p6 (keywordEach [] env)) = true := form_ok heach (Nat.le_of_ble_eq_true rfl) (.inl rfl)
    unfold methodCall calleeOf
    rw [hform, if_pos rfl]
    refine WP.bind (WP.holding ⟨@getMethod_builtin _ _ _ _ _ _ _ _ _ _ (LstAt.is hl6).typeIs F.plainAttrs_list slot_list_append (by rfl) (fun b hb => Value.ref.inj hb ▸ ⟨_, hl6, rfl⟩) ?_⟩)
    rw [mpos_ok hline]
    refine WP.bind (WP.pure ?_)
    refine callWith_ok (.builtin _) (star_any heach) (each_ok okE rm1 f6.kn heach se6 fun vs G7 s7 k7 r7 => ?_)
    have eO : G7.O = O6 := k7.o
    have k7 := k7.back
    have f7 := f6.ke k7
    refine ⟨⟨_, f7.st⟩, ?_⟩
    obtain ⟨vv, rfl, rv⟩ := r7.one
    have hd7 := keep f6.st hd6 (Tr.ke f6.st k7)
    obtain ⟨items, m7, hl7, rl7⟩ := hd7.ls
    obtain ⟨na, nd, nT⟩ := hd7.ne3
    refine ⟨@wpAny_list_append_plain _ _ _ _ _ _ _ _ _ ⟨_, hl7⟩ (fun h' hp' hs' => ?_) (by rw [rl7.size, List.length_map, sizeLine_eq]; omega)⟩
    obtain ⟨n', hp'⟩ := hp'
    have kw : Kw B [l] { G7 with O := G5.O } s7 { G7 with O := G5.O } { s7 with heap := h' } := Kw.same1 f7.st (List.mem_singleton.mpr rfl) (hTt l hlT) hs' (Nat.le_refl _) hl7.nc
    have f8 := f7.kwO kw (hT l hlT).1 (hT l hlT).2 hcl
    have up := kw.up f7.st fun b hb => by rw [List.mem_singleton.mp hb]; exact f7.oo l (hT l hlT).1
    have rv7 : Rd { G7 with O := G5.O } s7.heap vv (pD (n, v)) := tup_back (O' := G7.O) (T := [a, dx, l]) rv rfl nT (fun c hc => by rw [eO]; exact hO6 c hc)
    have hd8 : HdAt C { G7 with O := G5.O } h' a dx l ((ps ++ [(n, v)]).map pD) := by
      refine ⟨(hs'.2 a na).trans hd7.ob, hd7.ne, ?_, _, _, hp', ?_⟩
      · obtain ⟨o, es, ep, e, w⟩ := hd7.ns
        exact ⟨o, es, ep, (hs'.2 dx nd).trans e, w⟩
      · rw [Array.toList_push, List.map_append]
        exact (rl7.up up).snoc (rv7.up up)
    refine WP.pure ?_
    obtain ⟨Γ4, h4⟩ := he4 a
    refine (ss_ok okS rm1 h4 f8 fun fl G9 s9 t9 f9 hfl => ?_).w
    cases fl <;> first | exact False.elim hfl | skip
    have kx8 := (kx_tr kx4 ((Tr.ke f4.st k5).trans ((Tr.ke f5.st k6).trans (Tr.ke f6.st k7)))).trans (Kx.of_kw f7.st kw) fun b hb => .inl (by rw [List.mem_singleton.mp hb]; exact hlT)
    exact hq1 _ _ (hQ _ { G9 with O := G.O } s9 (kx_tr kx8 t9).kw (hfl.up (Up.free f9.oo)) ((keep f8.st hd8 t9).up (Up.free f9.oo) fun _ _ _ e => e))
end
end Mine

end
section
open PySem PySem.W PyProof.Rows
set_option Elab.async false
set_option maxRecDepth 100000
namespace Mine

noncomputable def okS (n v : Str) : Bool := Safe n && (Safe v && (Safe (lowF n) && !Builtin.Str.tooLong (lowF n).length))
theorem okS_low {n v : Str} (h : okS n v = true) : low n = false := by
  unfold okS at h
  simp only [Bool.and_eq_true, Bool.not_eq_true', lowF_eq] at h
  exact h.2.2.2
structure Tab (ps : List (Str × Str)) (k : Nat) : Prop where
  lo : ∀ p ∈ ps, low p.1 = false
  le : ps.length + k ≤ 900
noncomputable def setT (ps : List (Str × Str)) (n v : Str) : List (Str × Str) := ps ++ cond (getO ps n).isNone [(n, v)] []
noncomputable def runT : List (Str × Str) → List (Str × Str) → List (Str × Str)
  | ps, [] => ps
  | ps, p :: qs => runT (setT ps p.1 p.2) qs
noncomputable def runR : List (Str × Str) → List (Str × Str) → List Str
  | _, [] => []
  | ps, p :: qs => (getO ps p.1).getD p.2 :: runR (setT ps p.1 p.2) qs
theorem Tab.set {ps : List (Str × Str)} {k : Nat} {n v : Str} (t : Tab ps (k + 1)) (h : okS n v = true) : Tab (setT ps n v) k := by
  unfold setT
  cases (getO ps n).isNone with
  | false => exact ⟨fun p hp => t.lo p (by simpa using hp), by have := t.le; simp; omega⟩
  | true => exact ⟨fun p hp => (List.mem_append.mp hp).elim (t.lo p) fun q => by rw [List.mem_singleton.mp q]; exact okS_low h, by have := t.le; simp; omega⟩
noncomputable def okQ (qs : List (Str × Str)) : Bool := qs.all fun p => okS p.1 p.2
noncomputable def pairsE (X : Nv) (q : Nat) (names : Kd) (Γ : Gm) (tg e1 e2 : Expr) : List D → Option (List (Str × Str))
  | [] => some []
  | k :: ks => (bindN names Γ tg k).bind fun Γ1 => (each (evE X q names Γ1) [e1, e2]).bind fun ds => (two strOf1 strOf1 ds).bind fun p => (pairsE X q names Γ tg e1 e2 ks).bind fun r => some (p :: r)
noncomputable def SetC (B : Bs) (L : Nat) (C fS : Addr) : Prop := ∀ {ps : List (Str × Str)} {n v : Str} {k : Nat}, okS n v = true → Tab ps (k + 1) → ∀ {A : Around} {G : Gh} {s : Shared} {a dx l : Addr} {nvv vvv : Value} {E Q : Value → Shared → Prop}, Room L A → St B G s → (∀ b ∈ [a, dx, l], b ∈ G.O ∧ B.h0.get? b = none) → HdAt C G s.heap a dx l (ps.map pD) →
  Rd G s.heap nvv (.str n) → Rd G s.heap vvv (.str v) → (∀ w G' s', Kw B [a, dx, l] G s G' s' → Rd G' s'.heap w (.str ((getO ps n).getD v)) → HdAt C G' s'.heap a dx l ((setT ps n v).map pD) → Q w s') → WP B A (call (.ref fS) [.ref a, nvv, vvv]) Q E s

section
variable {B : Bs} {A : Around} {G : Gh} {s : Shared} {sc : Kd} {env : Env} {V W : List Addr} {Γ : Gm} {E : Value → Shared → Prop} {L : Nat} {X : Nv} {K : Frag} {C : Addr} {n : Nat}
theorem setCall_ok (nv : NvOk B L X) (kb : KB B K) (hk : HdK K C) {fS : Addr} {m : Str} (hS : SetC B L C fS) (kf : KeepOk B (.ref fS)) (hf : findIn K (.ref C) m = some (some (.ref fS))) (hft : typeIn K (.ref fS) = some (.type "function")) (hne : m ≠ "_headers")
    {tx : Str} {p1 p2 p3 : Pos} {e1 e2 : Expr} (hline : (p2.endLine == p3.line) = true) (hkc : kc (look sc tx) = .cel) (hdb : strEq tx "__debug__" = false) (hdc : strEq tx "__classdict__" = false) {ps : List (Str × Str)} {nm v : Str} {kt : Nat} (ho : okS nm v = true) (htb : Tab ps (kt + 1)) (hea : each (evE X n sc Γ) [e1, e2] = some [.str nm, .str v])
    (rm : Room L A) (kn : Kn sc env) {Γ' : Gm} (se : Sees B G s env Γ') (hle : ∀ y d, look Γ y = some d → look Γ' y = some d) {a dx l : Addr} (hT : ∀ b ∈ [a, dx, l], b ∈ G.O ∧ B.h0.get? b = none) (hl : look Γ' tx = some (.ref a)) (hd : HdAt C G s.heap a dx l (ps.map pD)) {Q : Value → Shared → Prop}
    (hQ : ∀ w G' s', Kw B [a, dx, l] G s G' s' → Rd G' s'.heap w (.str ((getO ps nm).getD v)) → HdAt C G' s'.heap a dx l ((setT ps nm v).map pD) → Q w s') : WP B A (eval (.Call (.Attribute (.Name tx p1) m p2) [e1, e2] [] p3) env) Q E s := by
  have hTt : ∀ b ∈ [a, dx, l], b ∉ B.tb := fun b hb => not_tb (hT b hb).2
  have hkc' := hkc
  rw [kn tx] at hkc'
  rw [arm_eval_Call, base_plain rfl]
  refine WP.bind ⟨@wpAny_Name _ _ _ _ _ _ _ _ (load_cel se hkc' hl (not_eq hdc) fun v1 G1 s1 k1 r1 => ?_).w (not_eq hdb)⟩
  obtain rfl := r1.refI
  have hd1 := hd.up (k1.up se.st) fun b hb o e => k1.kp b o (fun q => hTt b hb (by simpa using q)) e
  obtain ⟨O2, st2, hr, -⟩ := hd1.rdv (se.st.ke k1) hTt
  refine WP.bind (WP.standAt ?_)
  have hform : methodCallForm ([e1, e2].length + ([] : List Keyword).length) (backTo p3 (starEach [e1, e2] env)) (backToKw p3 (keywordEach [] env)) = true := form_ok hea (Nat.le_of_ble_eq_true rfl) (.inl rfl)
  unfold methodCall calleeOf
  rw [hform, if_pos rfl]
  refine WP.bind (WP.holding (hdr_method kb hk hf hft hne st2 hr ?_))
  rw [mpos_ok hline]
  refine WP.bind (WP.pure ?_)
  refine callWith_ok kf (star_any hea) (each_ok (evE_ok nv n).1 rm kn hea ((se.ke k1).less hle) fun vs G2 s2 k2 r2 => ⟨⟨G2, (se.st.ke k1).ke k2⟩, ?_⟩)
  obtain ⟨x, y, rfl, rx, ry⟩ := r2.two
  have k := k1.trans k2
  exact hS ho htb rm ((se.st.ke k1).ke k2) (fun b hb => ⟨k.o ▸ (hT b hb).1, (hT b hb).2⟩) (hd1.up (k2.up (se.st.ke k1)) fun b hb o e => k2.kp b o (fun q => hTt b hb (by simpa using q)) e) rx ry fun w G3 s3 k3 r3 h3 => hQ w G3 s3 ((Kw.of_ke k).trans k3) r3 h3

noncomputable def TP (X : Nv) (q : Nat) (names : Kd) (Γ : Gm) (tg e1 e2 : Expr) (C a dx l : Addr) (T : List (Str × Str)) (tot : List Str) (xs : List D) (G : Gh) (s : Shared) (_ : Array Value) (ds : List D) : Prop :=
  ∃ qs ps, pairsE X q names Γ tg e1 e2 xs = some qs ∧ (okQ qs = true ∧ Tab ps qs.length) ∧ runT ps qs = T ∧ ds ++ (runR ps qs).map D.str = tot.map D.str ∧ HdAt C G s.heap a dx l (ps.map pD) ∧ ∀ b ∈ [a, dx, l], b ∈ G.O
structure SetK (B : Bs) (L : Nat) (K : Frag) (C fS : Addr) (m : Str) : Prop where
  kb : KB B K
  hk : HdK K C
  c : SetC B L C fS
  kf : KeepOk B (.ref fS)
  hf : findIn K (.ref C) m = some (some (.ref fS))
  ht : typeIn K (.ref fS) = some (.type "function")
  ne : m ≠ "_headers"
theorem tp_step (nv : NvOk B L X) {fS : Addr} {m : Str} (S : SetK B L K C fS m) {T : List (Str × Str)} {tot : List Str}
    {tx : Str} {p1 p2 p3 : Pos} {e1 e2 tg : Expr} {cv : Env} {acc : Addr} (hline : (p2.endLine == p3.line) = true) (hkc : kc (look sc tx) = .cel) (hdb : strEq tx "__debug__" = false) (hdc : strEq tx "__classdict__" = false) {a dx l : Addr} {Γ' : Gm} (h0 : ∀ b ∈ [a, dx, l], B.h0.get? b = none)
    (hbr : ∀ k Γ1, bindN sc Γ tg k = some Γ1 → ∃ Γ2, bindN sc Γ' tg k = some Γ2 ∧ (∀ y d, look Γ1 y = some d → look Γ2 y = some d) ∧ look Γ2 tx = some (.ref a)) (hcv : cv.locals ∉ [a, dx, l]) (hcc : ∀ y c, cv.cells.lookup y = some c → c ∉ [a, dx, l]) (hao : acc ∉ [a, dx, l]) (hlen : tot.length ≤ 900) (x : D) (xs : List D) (G : Gh) (s : Shared) (items : Array Value) (ds : List D)
    (h : TP X n sc Γ tg e1 e2 C a dx l T tot (x :: xs) G s items ds) : Step B L (evE X n) sc cv W [a, dx, l] acc tg [] Γ' x (TP X n sc Γ tg e1 e2 C a dx l T tot (x :: xs)) (TP X n sc Γ tg e1 e2 C a dx l T tot xs) (emitT (.ref acc) (.Call (.Attribute (.Name tx p1) m p2) [e1, e2] [] p3) cv) := by
  obtain ⟨qs, ps, h1, -⟩ := h
  obtain ⟨Γ1, hb, -⟩ := bnd h1
  clear h1
  obtain ⟨Γ2', hb', hle, hl⟩ := hbr x Γ1 hb
  refine .yes Γ2' hb' rfl fun A G s items nn ds E Q htp rm kn se ow hacc haW ha0 hc hlst rl hQ => ?_
  obtain ⟨qs, ps, h1, h2, h3, h4, h5, hO⟩ := htp
  obtain ⟨Γ2, hb2, g1⟩ := bnd h1
  obtain rfl := Option.some.inj (hb.symm.trans hb2)
  obtain ⟨dd, hea, g2⟩ := bnd g1
  obtain ⟨p, hp, g3⟩ := bnd g2
  obtain ⟨r, hr, g4⟩ := bnd g3
  obtain ⟨y, z, rfl, e1, e2⟩ := two_eq hp
  rw [strOf1_eq e1, strOf1_eq e2] at hea
  have g5 := Option.some.inj g4
  clear h1 g1 g2 g3 g4 hp hb2 e1 e2 y z
  subst g5
  obtain ⟨o1, o2⟩ := Bool.and_eq_true_iff.mp h2.1
  have hlen1 := congrArg List.length h4
  rw [List.length_append, List.length_map, List.length_map] at hlen1
  unfold emitT
  refine WP.bind (setCall_ok nv S.kb S.hk S.c S.kf S.hf S.ht S.ne hline hkc hdb hdc o1 h2.2 hea rm kn se hle (fun b hb => ⟨hO b hb, h0 b hb⟩) hl h5 fun w G1 s1 k1 r1 hd1 => ?_)
  have hat := not_tb ha0
  have se1 := se.kw k1 hO h0 hcv hcc
  have hl1 : LstAt s1.heap acc items nn := lst_kw hlst k1 hao hat
  have hacc1 : acc ∈ G1.O := by rw [k1.o]; exact hacc
  have rl1 := rl.up (k1.up se.st hO)
  refine WP.bind ⟨@wpAny_list_append_plain _ _ _ _ _ _ _ _ _ ⟨nn, hl1⟩ (fun h' hp hs => ?_) (by rw [rl1.size, sizeLine_eq]; omega)⟩
  obtain ⟨n', hp⟩ := hp
  have k2 : Kw B [acc] G1 s1 G1 { s1 with heap := h' } := Kw.same1 se1.st (List.mem_singleton.mpr rfl) hat hs (Nat.le_refl _) hl1.nc
  have hW2 : ∀ a ∈ [acc], a ∈ G1.O := fun a ha => by rw [List.mem_singleton.mp ha]; exact hacc1
  have up2 := k2.up se1.st hW2
  have hc2 : ∀ y c, cv.cells.lookup y = some c → c ∉ [acc] := fun y c hy q => (hc y c hy).1 (List.mem_singleton.mp q)
  refine WP.pure (hQ G1 _ (items.push w) n' (ds ++ [.str ((getO ps p.1).getD p.2)]) ((k1.mono fun b hb => List.mem_cons_of_mem _ (List.mem_append_left _ hb)).trans (k2.mono fun a ha => by rw [List.mem_singleton.mp ha]; exact List.mem_cons_self)) (se1.kw k2 hW2 (fun a ha => by rw [List.mem_singleton.mp ha]; exact ha0) (fun q => haW (List.mem_singleton.mp q ▸ ow.loc)) hc2)
    ((ow.kw k1 fun y c _ hy => hcc y c hy).kw k2 fun y c hy hc' => hc2 y c hc') hp ?_ ⟨r, _, hr, ⟨o2, h2.2.set o1⟩, h3, by rw [List.append_assoc]; exact h4, hd1.up up2 (fun b hb o e => (hs.2 b fun q => hao (q ▸ hb)).trans e), fun b hb => k1.o ▸ hO b hb⟩)
  rw [Array.toList_push]
  exact (rl1.up up2).snoc (r1.up up2)
theorem setComp_ok (nv : NvOk B L X) {fS : Addr} {m : Str} (S : SetK B L K C fS m) (rm : Room L A) (kn : Kn sc env) {Γ' : Gm} (se : Sees B G s env Γ') (hle : ∀ y d, look Γ y = some d → look Γ' y = some d)
    {tx : Str} {p1 p2 p3 cp : Pos} {e1 e2 tg it : Expr} {scope : Scope} (hline : (p2.endLine == p3.line) = true) (hkc : kc (look scope.names tx) = .cel) (hdb : strEq tx "__debug__" = false) (hdc : strEq tx "__classdict__" = false) (hset : isSet it = false) (hsc : scopeOk sc scope = true)
    {a dx l : Addr} (hT : ∀ b ∈ [a, dx, l], b ∈ G.O ∧ B.h0.get? b = none) (hcl : ∀ b ∈ [a, dx, l], ∀ y c, env.cells.lookup y = some c → c ≠ b) (hbr : ∀ k Γ1, bindN scope.names (freeG Γ scope.names) tg k = some Γ1 → ∃ Γ2, bindN scope.names (freeG Γ' scope.names) tg k = some Γ2 ∧ (∀ y d, look Γ1 y = some d → look Γ2 y = some d) ∧ look Γ2 tx = some (.ref a)) {d : D} {ks : List D} {ps qs : List (Str × Str)} (hd : evE X n sc Γ it = some d) (hks : iterD d = some ks)
    (hqs : pairsE X n scope.names (freeG Γ scope.names) tg e1 e2 ks = some qs) (ho : okQ qs = true ∧ Tab ps qs.length) (hlen : (runR ps qs).length ≤ 900) (hh : HdAt C G s.heap a dx l (ps.map pD)) {Q : Value → Shared → Prop}
    (hQ : ∀ v G' s', Kw B [a, dx, l] G s G' s' → Rd G' s'.heap v (.lst ((runR ps qs).map D.str)) → HdAt C G' s'.heap a dx l ((runT ps qs).map pD) → Q v s') :
    WP B A (eval (.ListComp (.Call (.Attribute (.Name tx p1) m p2) [e1, e2] [] p3) [⟨tg, it, [], 0⟩] scope cp) env) Q E s := by
  obtain ⟨k1, k2, k3⟩ := scopeOk_inv hsc
  have hO : ∀ b ∈ [a, dx, l], b ∈ G.O := fun b hb => (hT b hb).1
  have h0 : ∀ b ∈ [a, dx, l], B.h0.get? b = none := fun b hb => (hT b hb).2
  have hlow : ∀ {c : Nat}, s.heap.objs.size ≤ c → c ∉ [a, dx, l] := fun hc m => Nat.not_lt.mpr hc (se.st.lt _ (hO _ m))
  rw [eval_ListComp]
  refine comp_gen (W0 := [a, dx, l]) (P := TP X n scope.names (freeG Γ scope.names) tg e1 e2 C a dx l (runT ps qs) (runR ps qs)) (use := none) (evE_ok nv n).1 (evE_ok nv n).2 rm kn se hset k1 k2 k3 hle hd hks hO
    (fun W xs G1 s1 G2 s2 items ds hW st hWO htp k => by
      obtain ⟨qs', ps', a1, a2, a3, a4, a5, a6⟩ := htp
      exact ⟨qs', ps', a1, a2, a3, a4, a5.up (k.up st hWO) fun b hb o e => k.kp b o (fun q => (List.mem_append.mp q).elim (fun q => hlow (hW b q) hb) (not_tb (h0 b hb))) e, fun b hb => k.o ▸ a6 b hb⟩)
    (fun G1 s1 k hs => ⟨qs, ps, hqs, ho, rfl, rfl, hh.up (k.up se.st fun _ h => nomatch h) fun b hb o e => k.kw.kp b o (fun q => not_tb (h0 b hb) (by simpa using q)) e, fun b hb => hs b (hO b hb)⟩)
    (fun cv W acc h1 h2 h3 h4 => ⟨_, tp_step nv S hline hkc hdb hdc h0 hbr (hlow h2) (fun y c hy q => (h3 y c hy).elim (fun w => hlow w q) fun ⟨z, w⟩ => hcl c q z c w rfl) (hlow h1) hlen, fun I => compTurn_emit rfl rfl⟩)
    fun G2 s2 acc C' items m out kx hsub hacc hC haO hCO hne hl2 rl p hns => ?_
  obtain ⟨qs', ps', a1, -, a3, a4, a5, a6⟩ := p
  rw [← Option.some.inj a1] at a3 a4
  have b4 : out = (runR ps qs).map D.str := by rw [← a4]; exact (List.append_nil _).symm
  have b3 : ps' = runT ps qs := a3
  clear a1 a3 a4 qs'
  subst b4
  subst b3
  obtain ⟨mm, hm⟩ := hns
  refine ⟨mm, hm, fun h' hs' => ?_⟩
  have st2 := kx.st se.st h0
  have hCt : C' ∉ B.tb := not_tb (se.st.fresh0 hC)
  have k2 : Kw B [C'] G2 s2 G2 { s2 with heap := h' } := Kw.same1 st2 (List.mem_singleton.mpr rfl) hCt hs' (Nat.le_refl _) (.ns hm)
  have kx2 : Kx B [a, dx, l] G s G2 { s2 with heap := h' } := kx.trans (Kx.of_kw st2 k2) fun b hb => .inr (by rw [List.mem_singleton.mp hb]; exact hC)
  have up2 := k2.up st2 (fun b hb => by rw [List.mem_singleton.mp hb]; exact hCO)
  have hds := (a5.up up2 fun b hb o e => (hs'.2 b fun q => hlow hC (q ▸ hb)).trans e).up (Up.free (O' := G.O) hsub) fun _ _ _ e => e
  refine hQ (.ref acc) { G2 with O := G.O } _ kx2.kw (.lst (n := m) (se.st.fresh hacc) ?_ ((rl.up up2).up (Up.free hsub))) hds
  exact lst_kw hl2 k2 (fun q => hne (List.mem_singleton.mp q)) (not_tb (se.st.fresh0 hacc))
theorem look_freeG_of {names : Kd} {x : Str} {d : D} (hm : (x, NameKind.free) ∈ names) (hx : look Γ x = some d) : look (freeG Γ names) x = some d := by
  induction names with
  | nil => cases hm
  | cons p r ih =>
    have hit : ∀ {d'}, look ((p.1, d') :: freeG Γ r) x = (match strEq x p.1 with | true => some d' | false => look (freeG Γ r) x) := fun {_} => rfl
    rcases freeG_cons (Γ := Γ) (p := p) (r := r) with e | ⟨d', hk, hd, e⟩
    · rw [e]
      rcases List.mem_cons.mp hm with q | q
      · have e2 : freeG Γ (p :: r) = (p.1, d) :: freeG Γ r := by
          unfold freeG
          exact List.filterMap_cons_some (by rw [← q, hx]; rfl)
        have := congrArg List.length (e2.symm.trans e)
        exact absurd this (Nat.succ_ne_self _)
      · exact ih q
    · rw [e, hit]
      cases hxy : strEq x p.1 with
      | true => rw [strEq_iff.mp hxy, hd] at hx; exact hx
      | false =>
        rcases List.mem_cons.mp hm with q | q
        · rw [← q, strEq_self] at hxy; exact ntf hxy
        · exact ih q
theorem bridge {names : Kd} {tx kx : Str} {kp : Pos} {a : Addr} (ho : once names = true) (ht : look names tx = some .free) (hn : look Γ tx = none) (k : D) (Γ1 : Gm) (h : bindN names (freeG Γ names) (.Name kx kp) k = some Γ1) :
    ∃ Γ2, bindN names (freeG (put Γ tx (.ref a)) names) (.Name kx kp) k = some Γ2 ∧ (∀ y d, look Γ1 y = some d → look Γ2 y = some d) ∧ look Γ2 tx = some (.ref a) := by
  have htm := mem_of_look ht
  obtain ⟨hnw, h⟩ := tst_inv h
  · cases bindT_inv h with
    | name hx e =>
      subst e
      have nf : ∀ y, (y, NameKind.free) ∈ names → y ≠ kx := fun y hy q => by
        have := look_of_mem ho hy
        rw [q] at this
        unfold storable at hx
        rw [this] at hx
        exact nft hx
      have hnone : look (freeG (put Γ tx (.ref a)) names) kx = none := by
        cases e : look (freeG (put Γ tx (.ref a)) names) kx with
        | none => rfl
        | some d => exact absurd rfl (nf kx (look_freeG e).1)
      refine ⟨put (freeG (put Γ tx (.ref a)) names) kx k, ?_, fun y d hy => ?_, ?_⟩
      · show tst (look (freeG (put Γ tx (.ref a)) names) kx).isNone (tst (storable names kx) (some _)) = _
        rw [hnone, hx]; rfl
      · rw [look_put] at hy ⊢
        by_cases hyx : y = kx
        · rw [if_pos hyx] at hy ⊢; exact hy
        · rw [if_neg hyx] at hy ⊢
          obtain ⟨h1, h2⟩ := look_freeG hy
          refine look_freeG_of h1 ?_
          rw [look_put, if_neg fun q => by rw [q, hn] at h2; exact nsd h2]
          exact h2
      · rw [look_put, if_neg (nf tx htm)]
        exact look_freeG_of htm (by rw [look_put, if_pos rfl])
end
end Mine

end
section
open PySem PySem.W PyProof.Rows
set_option Elab.async false
set_option maxRecDepth 100000
namespace Mine

noncomputable def lessA {α : Type} (l : List (Str × α)) : List Str → List (Str × α)
  | [] => []
  | x :: ks => match look l x with
    | some d => (x, d) :: lessA l ks
    | none => lessA l ks
theorem look_lessA {α : Type} {l : List (Str × α)} : ∀ {ks : List Str} {x : Str} {d : α}, look (lessA l ks) x = some d → look l x = some d
  | [], _, _, h => nsd h
  | k :: ks, x, d, h => by
    have ih := @look_lessA α l ks x d
    unfold lessA at h
    cases hk : look l k with
    | none => rw [hk] at h; exact ih h
    | some e =>
      rw [hk] at h
      dsimp only at h
      unfold look at h
      cases hx : strEq x k with
      | true => rw [hx] at h; dsimp only at h; rw [strEq_iff.mp hx, hk]; exact h
      | false => rw [hx] at h; exact ih h
noncomputable def lessR (r : Rs) : Option (List Str) → Rs
  | some ks => (r.1, lessA r.2.1 ks, lessA r.2.2 ks)
  | none => r
noncomputable def befT : List (Str × List Str) := [("places", ["judges", "width", "base", "letters", "bits"]), ("rows", ["judges", "width", "base", "letters", "lines", "turned", "number", "k", "dues"])]
noncomputable def aftT : List (Str × List Str) := [("middle", ["judges", "width", "base", "letters", "lines", "kept", "alone", "middle"])]
noncomputable def asgH (X : Nv) (q : Nat) (sc : Kd) (Γ : Gm) (Ω : Om) (x : Str) (v : Expr) : Option Rs := tst (storable sc x && !strEq x "dues") ((evF (evE X q sc) (lessR (.nxt, Γ, Ω) (look befT x)).2.1 (lessR (.nxt, Γ, Ω) (look befT x)).2.2 v).bind fun p => some (lessR (.nxt, put p.2.1 x p.1, del p.2.2 x) (look aftT x)))
noncomputable def hdrO (C : Nat) : OD → Option (List (Str × Str))
  | .hdr C' xs => tst (Nat.beq C' C) (pairsOf xs)
  | _ => none
noncomputable def setD (X : Nv) (q C : Nat) (sc : Kd) (Γ : Gm) (Ω : Om) (tx : Str) (tg it e1 e2 : Expr) (names : Kd) (ops : List CmpOp) (rs : List Expr) : Option Rs := (look Ω tx).bind fun o => (hdrO C o).bind fun ps => (evE X q sc Γ it).bind fun d => (iterD d).bind fun ks =>
  (pairsE X q names (freeG Γ names) tg e1 e2 ks).bind fun qs => tst (okQ qs && (ps.all (fun p => !Builtin.Str.tooLong (lowF p.1).length) && (Nat.ble (ps.length + qs.length) 900 && Nat.ble (runR ps qs).length 900))) ((chainD (evE X q sc Γ) (.lst ((runR ps qs).map D.str)) ops rs).bind fun b => (boolOf1 b).bind fun b => tst (!b) (some (.nxt, Γ, putA Ω tx (.hdr C ((runT ps qs).map pD)))))
structure SetS where
  tx : Str
  p1 : Pos
  m : Str
  p2 : Pos
  es : Expr × Expr
  kws : List Keyword
  p3 : Pos
  kx : Str
  kp : Pos
  it : Expr
  scope : Scope
  lp : Pos
  ops : List CmpOp
  rs : List Expr
  pc : Pos
noncomputable def SetS.ex (q : SetS) : Expr := .Compare (.ListComp (.Call (.Attribute (.Name q.tx q.p1) q.m q.p2) [q.es.1, q.es.2] q.kws q.p3) [⟨.Name q.kx q.kp, q.it, [], 0⟩] q.scope q.lp) q.ops q.rs q.pc
noncomputable def setP (t : Expr) : Option SetS := (cmpO t).bind fun c => (lcO c.1).bind fun l => (calO l.1).bind fun k => (attO k.1).bind fun a => (nameOf a.1).bind fun tx => (duo k.2.1).bind fun es => (gen1 l.2.1).bind fun g => (nameOf g.1).bind fun kx =>
  some ⟨tx, a.1.pos, a.2.1, a.2.2, es, k.2.2.1, k.2.2.2, kx, g.1.pos, g.2, l.2.2.1, l.2.2.2, c.2.1, c.2.2.1, c.2.2.2⟩
theorem setP_eq {t : Expr} {q : SetS} (h : setP t = some q) : t = q.ex := by
  obtain ⟨c, h1, h⟩ := bnd h
  obtain ⟨l, h2, h⟩ := bnd h
  obtain ⟨k, h3, h⟩ := bnd h
  obtain ⟨a, h4, h⟩ := bnd h
  obtain ⟨tx, h5, h⟩ := bnd h
  obtain ⟨es, h6, h⟩ := bnd h
  obtain ⟨g, h7, h⟩ := bnd h
  obtain ⟨kx, h8, h⟩ := bnd h
  rw [← Option.some.inj h]
  show t = .Compare (.ListComp (.Call (.Attribute (.Name tx a.1.pos) a.2.1 a.2.2) [es.1, es.2] k.2.2.1 k.2.2.2) [⟨.Name kx g.1.pos, g.2, [], 0⟩] l.2.2.1 l.2.2.2) c.2.1 c.2.2.1 c.2.2.2
  rw [← rev_pos h5, ← rev_pos h8, ← duo_eq h6, ← gen1_eq h7, ← attO_eq h4, ← calO_eq h3, ← lcO_eq h2]
  exact cmpO_eq h1
noncomputable def setB (sc : Kd) (Γ : Gm) (q : SetS) : Bool := q.kws.isEmpty && (strEq q.m "setdefault" && ((q.p2.endLine == q.p3.line) && (!strEq q.tx "__debug__" && (!strEq q.tx "__classdict__" && (!isSet q.it && (scopeOk sc q.scope && (!lastMarks q.ops q.rs && (decide (look q.scope.names q.tx = some .free) && (look Γ q.tx).isNone))))))))
structure SetC1 (sc : Kd) (Γ : Gm) (q : SetS) : Prop where
  kw : q.kws = []
  m : q.m = "setdefault"
  ln : (q.p2.endLine == q.p3.line) = true
  db : strEq q.tx "__debug__" = false
  dc : strEq q.tx "__classdict__" = false
  st : isSet q.it = false
  sc : scopeOk sc q.scope = true
  lm : lastMarks q.ops q.rs = false
  ft : look q.scope.names q.tx = some .free
  nt : look Γ q.tx = none
theorem setB_inv {sc : Kd} {Γ : Gm} {q : SetS} (h : setB sc Γ q = true) : SetC1 sc Γ q :=
  have h1 := Bool.and_eq_true_iff.mp h
  have h2 := Bool.and_eq_true_iff.mp h1.2
  have h3 := Bool.and_eq_true_iff.mp h2.2
  have h4 := Bool.and_eq_true_iff.mp h3.2
  have h5 := Bool.and_eq_true_iff.mp h4.2
  have h6 := Bool.and_eq_true_iff.mp h5.2
  have h7 := Bool.and_eq_true_iff.mp h6.2
  have h8 := Bool.and_eq_true_iff.mp h7.2
  have h9 := Bool.and_eq_true_iff.mp h8.2
  ⟨List.isEmpty_iff.mp h1.1, strEq_iff.mp h2.1, h3.1, bnot h4.1, bnot h5.1, bnot h6.1, h7.1, bnot h8.1, of_decide_eq_true h9.1, Option.isNone_iff_eq_none.mp h9.2⟩
noncomputable def setH (X : Nv) (q C : Nat) (sc : Kd) (Γ : Gm) (Ω : Om) (t : Expr) (o : List Stmt) : Option Rs := (setP t).bind fun p => tst (o.isEmpty && setB sc Γ p) (setD X q C sc Γ Ω p.tx (.Name p.kx p.kp) p.it p.es.1 p.es.2 p.scope.names p.ops p.rs)
noncomputable def newB (sc : Kd) (x h : Str) (a : Expr) (kws : List Keyword) : Bool := kws.isEmpty && (strEq h "Headers" && (decide (kc (look sc h) = .glo) && (isLst a && storable sc x)))
noncomputable def newV (X : Nv) (q C : Nat) (sc : Kd) (Γ : Gm) (Ω : Om) (x : Str) (a : Expr) : Option Rs := (evE X q sc Γ a).bind fun d => (lstOf1 d).bind fun xs => (pairsOf xs).bind fun ps => tst (ps.all fun p => Safe p.1 && Safe p.2) (some (.nxt, del Γ x, putA Ω x (.hdr C (ps.map pD))))
noncomputable def newD (X : Nv) (q C : Nat) (sc : Kd) (Γ : Gm) (Ω : Om) (x : Str) (v : Expr) : Option Rs := (calO v).bind fun k => (nameOf k.1).bind fun h => (solo k.2.1).bind fun a => tst (newB sc x h a k.2.2.1) (newV X q C sc Γ Ω x a)
noncomputable def lawA (X : Nv) (q C : Nat) (sc : Kd) (Γ : Gm) (Ω : Om) (st : Stmt) : Option Rs := (asgO st).bind fun p => (solo p.1).bind fun t => (nameOf t).bind fun x => cond (strEq x "table") (newD X q C sc Γ Ω x p.2.1) (asgH X q sc Γ Ω x p.2.1)
noncomputable def hkLaw (X : Nv) (q C : Nat) : Hk := ⟨fun sc Γ Ω st => orE (lawA X q C sc Γ Ω st) some ((iffO st).bind fun p => setH X q C sc Γ Ω p.1 p.2.2.1)⟩
end Mine

end
section
open PySem PySem.W PyProof.Rows
set_option Elab.async false
set_option maxRecDepth 100000
namespace Mine

section
variable {B : Bs} {A : Around} {O0 : List Addr} {G : Gh} {s : Shared} {sc : Kd} {env : Env} {V : List Addr} {Γ : Gm} {Ω : Om} {E : Value → Shared → Prop} {L : Nat} {X : Nv} {K : Frag} {C : Addr} {n : Nat}
theorem Fm.lessR {r : Rs} (f : Fm B O0 G s sc env V r.2.1 r.2.2) (ks : Option (List Str)) : Fm B O0 G s sc env V (Mine.lessR r ks).2.1 (Mine.lessR r ks).2.2 := by
  cases ks with
  | none => exact f
  | some ks => exact f.lessB (fun _ _ h => look_lessA h) fun _ _ h => look_lessA h
theorem PostS.lessR {r : Rs} {ks : Option (List Str)} {Q : Flow → Shared → Prop} (h : PostS B O0 G s sc env V (Mine.lessR r ks) Q) : PostS B O0 G s sc env V r Q := fun fl G' s' t f hf => h fl G' s' t (f.lessR ks) (by cases ks <;> exact hf)
theorem asgH_ok (nv : NvOk B L X) (rm : Room L A) {x : Str} {px pos : Pos} {v : Expr} {r : Rs} {Q : Flow → Shared → Prop} (f : Fm B O0 G s sc env V Γ Ω) (h : asgH X n sc Γ Ω x v = some r) (hQ : PostS B O0 G s sc env V r Q) : WP B A (exec (.Assign [.Name x px] v pos) env) Q E s := by
  obtain ⟨h1, h2⟩ := tst_inv h
  obtain ⟨p, h3, h4⟩ := bnd h2
  rw [← Option.some.inj h4] at hQ
  exact name_assign_ok nv rm (f.lessR (r := (.nxt, Γ, Ω)) (look befT x)) (Bool.and_eq_true_iff.mp h1).1 h3 hQ.lessR
theorem RdL.pairs {h : Heap} {O' T : List Addr} (hT : ∀ b ∈ T, ∀ i n, ¬ TupAt h b i n) (hO : ∀ c ∈ O', c ∈ T ∨ c ∈ G.O) : ∀ {ps : List (Str × Str)} {vs : List Value}, RdL G h vs (ps.map pD) → RdL { G with O := O' } h vs (ps.map pD)
  | [], _, r => r.nilK .nil
  | p :: ps, _, r => r.consK fun _ _ a b => .cons (a.tupK fun t items m ha ht hd => .tup (fun q => (hO t q).elim (fun w => hT t w _ _ ht) ha) ht (hd.plain rfl)) (RdL.pairs hT hO b)
theorem newV_ok (nv : NvOk B (L + 2) X) (N : NewC B L C) (kb : KB B K) (hk : HdK K C) (hmg : B.mg "Headers" = some (.ref C)) (rm : Room (L + 2) A) {x : Str} {px pos hp lp p : Pos} {es : List Expr} {r : Rs} {Q : Flow → Shared → Prop} (f : Fm B O0 G s sc env V Γ Ω) (h : newV X n C sc Γ Ω x (.List es lp) = some r)
    (c2 : kc (look sc "Headers") = .glo) (c4 : storable sc x = true) (hQ : PostS B O0 G s sc env V r Q) : WP B A (exec (.Assign [.Name x px] (.Call (.Name "Headers" hp) [.List es lp] [] p) pos) env) Q E s := by
  obtain ⟨d, h5, h6⟩ := bnd h
  obtain ⟨xs, h7, h8⟩ := bnd h6
  obtain ⟨ps, h9, h10⟩ := bnd h8
  obtain ⟨c5, h11⟩ := tst_inv h10
  rw [lstOf1_eq h7, pairsOf_eq h9] at h5
  rw [← Option.some.inj h11] at hQ
  have hs : ∀ p ∈ ps, Safe p.1 = true ∧ Safe p.2 = true := fun p hp => Bool.and_eq_true_iff.mp (List.all_eq_true.mp c5 p hp)
  clear h h6 h7 h8 h9 h10 h11 c5
  cases n with
  | zero => exact nsd h5
  | succ n =>
    have h5 : evE1 X (evE X n) sc Γ (.List es lp) = some (.lst (ps.map pD)) := h5
    unfold evE1 at h5; dsimp only at h5
    split at h5
    · exact nsd h5
    rename_i ds hds
    split at h5
    · rename_i hl
      have h6 := D.lst.inj (Option.some.inj h5)
      subst h6
      have hl := Nat.le_of_ble_eq_true hl
      refine assign_plain rfl rfl rfl ?_
      show WP B A (do callWith p (← eval (.Name "Headers" hp) env) [] (backTo p (starEach [.List es lp] env)) []) _ E s
      refine WP.bind (callee_ok f.kn f.se c2 rfl (.inl hmg) ?_)
      refine callWith_ok (keep_cls kb hk) rfl ?_
      rw [star_plain rfl]
      refine ⟨@Calls.spliced_cons _ _ _ _ _ _ _ (@wpAny_List_spliced _ _ _ _ _ _ _ _ _ (each_ok (evE_ok nv n).1 rm f.kn hds f.se fun vs G1 s1 k1 r1 => ⟨by rw [r1.length, sizeLine_eq]; omega, ?_⟩).w)⟩
      have st1 := f.st.ke k1
      have kp : Ke B G1 s1 G1 { s1 with heap := s1.heap.push { cls := .type "list", data := .seq vs.toArray } } := Ke.push st1 _ (Nat.le_refl _)
      have hlst : LstAt (s1.heap.push { cls := .type "list", data := .seq vs.toArray }) s1.heap.objs.size vs.toArray 0 := Heap.get?_push_size _ rfl
      have st2 := st1.ke kp
      refine (WP.pure (a := []) ?_ : WP B A _ _ E _).w
      refine ⟨⟨G1, st2⟩, N hs rm st2 (fun q => Nat.lt_irrefl _ (st1.lt _ q)) hlst ((by simpa using r1 : RdL G1 s1.heap vs.toArray.toList _).ke st1 kp) fun a dx G3 s3 k3 ha hdx ha2 hdx2 hob hne hns hl3 hd3 => ?_⟩
      have k := (k1.trans kp).trans k3
      have hz : s.heap.objs.size ≤ s1.heap.objs.size := k1.sz
      have hz2 : (s1.heap.push { cls := .type "list", data := .seq vs.toArray }).objs.size = s1.heap.objs.size + 1 := Heap.size_push ..
      have H : HdAt C G3 s3.heap a dx s1.heap.objs.size (ps.map pD) := ⟨hob, hne, hns, _, _, hl3, hd3⟩
      have ha : s1.heap.objs.size + 1 ≤ a := hz2 ▸ ha
      have hdx : s1.heap.objs.size + 1 ≤ dx := hz2 ▸ hdx
      have hls : s1.heap.objs.size < s3.heap.objs.size := Heap.lt_size hl3
      refine ⟨@wpAny_assign_Name _ _ _ _ _ _ _ _ _ (f.newOwn (as := [a, dx, s1.heap.objs.size]) (Z := []) k (fun b hb => ?_) (fun _ _ h => nomatch h) (.hdr hob hne hns hl3 (hd3.pairs H.ne3.2.2 fun c hc => ?_)) c4 fun s4 _ t4 f4 => hQ .next _ s4 t4 f4 trivial).w⟩
      · simp only [List.append_nil, List.mem_cons, List.not_mem_nil, or_false] at hb
        rcases hb with q | q | q <;> rw [q]
        · exact ⟨Nat.le_trans hz (Nat.le_of_succ_le ha), ha2⟩
        · exact ⟨Nat.le_trans hz (Nat.le_of_succ_le hdx), hdx2⟩
        · exact ⟨hz, hls⟩
      · exact (List.mem_append.mp hc).imp (fun q => by simpa using q) id
    · exact nsd h5
theorem newD_ok (nv : NvOk B (L + 2) X) (N : NewC B L C) (kb : KB B K) (hk : HdK K C) (hmg : B.mg "Headers" = some (.ref C)) (rm : Room (L + 2) A) {x : Str} {px pos : Pos} {v : Expr} {r : Rs} {Q : Flow → Shared → Prop} (f : Fm B O0 G s sc env V Γ Ω) (h : newD X n C sc Γ Ω x v = some r) (hQ : PostS B O0 G s sc env V r Q) :
    WP B A (exec (.Assign [.Name x px] v pos) env) Q E s := by
  obtain ⟨k, h1, h⟩ := bnd h
  obtain ⟨hn, h2, h⟩ := bnd h
  obtain ⟨a, h3, h⟩ := bnd h
  obtain ⟨hb, h⟩ := tst_inv h
  have b1 := Bool.and_eq_true_iff.mp hb
  have b2 := Bool.and_eq_true_iff.mp b1.2
  have b3 := Bool.and_eq_true_iff.mp b2.2
  have b4 := Bool.and_eq_true_iff.mp b3.2
  obtain ⟨es, lp, e⟩ := isLst_some b4.1
  rw [e] at h
  have e2 := strEq_iff.mp b2.1
  have c2 := of_decide_eq_true b3.1
  rw [e2] at c2
  rw [calO_eq h1, rev_pos h2, e2, solo_eq h3, e, List.isEmpty_iff.mp b1.1]
  exact newV_ok nv N kb hk hmg rm f h c2 b4.2 hQ
end
end Mine

end
section
open PySem PySem.W PyProof.Rows
set_option Elab.async false
set_option maxRecDepth 100000
namespace Mine

section
variable {B : Bs} {A : Around} {O0 : List Addr} {G : Gh} {s : Shared} {sc : Kd} {env : Env} {V : List Addr} {Γ : Gm} {Ω : Om} {E : Value → Shared → Prop} {L : Nat} {X : Nv} {K : Frag} {C : Addr} {n : Nat}
theorem hdrO_eq {o : OD} {ps : List (Str × Str)} (h : hdrO C o = some ps) : o = .hdr C (ps.map pD) := by
  cases o <;> first | exact nsd h | skip
  obtain ⟨h1, h2⟩ := tst_inv h
  rw [Nat.eq_of_beq_eq_true h1, pairsOf_eq h2]
theorem setD_ok (nv : NvOk B L X) {fS : Addr} {m : Str} (S : SetK B L K C fS m) (rm : Room L A) {tx kx : Str} {it e1 e2 : Expr} {scope : Scope} {ops : List CmpOp} {rs : List Expr} {tb : List Stmt} {kp p1 p2 p3 lp pc pos : Pos} {r : Rs} {Q : Flow → Shared → Prop} (f : Fm B O0 G s sc env V Γ Ω)
    (hline : (p2.endLine == p3.line) = true) (hdb : strEq tx "__debug__" = false) (hdc : strEq tx "__classdict__" = false) (hset : isSet it = false) (hsc : scopeOk sc scope = true) (hm : lastMarks ops rs = false) (ht : look scope.names tx = some .free) (hn : look Γ tx = none)
    (h : setD X n C sc Γ Ω tx (.Name kx kp) it e1 e2 scope.names ops rs = some r) (hQ : PostS B O0 G s sc env V r Q) :
    WP B A (exec (.If (.Compare (.ListComp (.Call (.Attribute (.Name tx p1) m p2) [e1, e2] [] p3) [⟨.Name kx kp, it, [], 0⟩] scope lp) ops rs pc) tb [] pos) env) Q E s := by
  obtain ⟨o, ho, h1⟩ := bnd h
  obtain ⟨ps, h2, h3⟩ := bnd h1
  rw [hdrO_eq h2] at ho
  obtain ⟨d, hd, h4⟩ := bnd h3
  obtain ⟨ks, hks, h5⟩ := bnd h4
  obtain ⟨qs, hqs, h6⟩ := bnd h5
  obtain ⟨c1, h7⟩ := tst_inv h6
  simp only [Bool.and_eq_true, List.all_eq_true, Bool.not_eq_true', lowF_eq] at c1
  obtain ⟨c1, d1, d2, c2⟩ := c1
  obtain ⟨b, hch, h8⟩ := bnd h7
  obtain ⟨b', h9, h10⟩ := bnd h8
  rw [boolOf1_eq h9] at hch
  obtain ⟨c3, h11⟩ := tst_inv h10
  have c3 : b' = false := by simpa using c3
  subst c3
  rw [← Option.some.inj h11] at hQ
  clear h h1 h2 h3 h4 h5 h6 h7 h8 h9 h10 h11 b
  obtain ⟨a, as, own, ⟨Γp, sep, hpx, hle⟩, hcl, turn⟩ := f.turn ho
  obtain ⟨od, turn1⟩ := turn G s (.refl f.st)
  obtain ⟨dx, l, rfl, hh⟩ := HdAt.of od
  have se' : Sees B G s env (put Γ tx (.ref a)) := sep.less fun y d hy => by
    rw [look_put] at hy
    by_cases hyx : y = tx
    · rw [if_pos hyx] at hy; rw [hyx, hpx]; exact hy
    · rw [if_neg hyx] at hy; exact hle y d hy
  have hle' : ∀ y d, look Γ y = some d → look (put Γ tx (.ref a)) y = some d := fun y d hy => by
    rw [look_put, if_neg fun q => by rw [q, hn] at hy; exact nsd hy]; exact hy
  refine ⟨@wpAny_If _ _ _ _ _ _ _ _ _ _ (WP.w ?_)⟩
  show WP B A (do testChain pc (← eval _ env) ops (markedEach ops rs (evalEach rs env))) _ E s
  rw [markedEach_of_false _ _ _ hm]
  refine WP.bind (setComp_ok nv S rm f.kn se' hle' hline (by rw [ht]; rfl) hdb hdc hset hsc (fun b hb => ⟨(own b hb).1, f.nw b (own b hb).1 (own b hb).2.1⟩) hcl (bridge (scopeOk_inv hsc).2.1 ht hn) hd hks hqs ⟨c1, d1, Nat.le_of_ble_eq_true d2⟩ (Nat.le_of_ble_eq_true c2) hh fun v G1 s1 k1 r1 hd1 => ?_)
  obtain ⟨t1, f1⟩ := turn1 s1 (.hdr C ((runT ps qs).map pD)) k1 hd1.od
  refine chainT_ok (evE_ok nv n).1 rm f1.kn hch rfl f1.se r1 fun G2 s2 k2 => ?_
  rw [if_neg (by simp)]
  exact @wpAny_execs_nil _ _ _ _ _ _ (hQ .next G2 s2 (t1.trans (Tr.ke f1.st k2)) (f1.ke k2) trivial)
theorem setH_ok (nv : NvOk B L X) {fS : Addr} (S : SetK B L K C fS "setdefault") (rm : Room L A) {t : Expr} {tb o : List Stmt} {pos : Pos} {r : Rs} {Q : Flow → Shared → Prop} (f : Fm B O0 G s sc env V Γ Ω) (h : setH X n C sc Γ Ω t o = some r) (hQ : PostS B O0 G s sc env V r Q) :
    WP B A (exec (.If t tb o pos) env) Q E s := by
  obtain ⟨q, hq, h⟩ := bnd h
  obtain ⟨hb, h⟩ := tst_inv h
  have b1 := Bool.and_eq_true_iff.mp hb
  have c := setB_inv b1.2
  rw [setP_eq hq, List.isEmpty_iff.mp b1.1]
  obtain ⟨tx, p1, m, p2, ⟨e1, e2⟩, kws, p3, kx, kp, it, scope, lp, ops, rs, pc⟩ := q
  obtain rfl : kws = [] := c.kw
  obtain rfl : m = "setdefault" := c.m
  exact setD_ok nv S rm f c.ln c.db c.dc c.st c.sc c.lm c.ft c.nt h hQ
end
theorem hkLaw_ok {B : Bs} {L : Nat} {X : Nv} {K : Frag} {C fS : Addr} (nv : NvOk B (L + 2) X) (N : NewC B L C) (hmg : B.mg "Headers" = some (.ref C)) (S : SetK B (L + 2) K C fS "setdefault") (n : Nat) : OkS B (L + 2) (hkLaw X n C).S := by
  intro sc Γ Ω st r h A O0 G s env V E Q rm f hQ
  refine orE_inv h (fun r' h1 h2 => ?_) fun h1 => ?_
  · rw [← Option.some.inj h2] at hQ
    obtain ⟨p, h3, h4⟩ := bnd h1
    obtain ⟨t, h5, h6⟩ := bnd h4
    obtain ⟨x, h7, h8⟩ := bnd h6
    rw [asgO_eq h3, solo_eq h5, rev_pos h7]
    cases ht : strEq x "table" with
    | true => rw [ht] at h8; exact newD_ok nv N S.kb S.hk hmg rm f h8 hQ
    | false => rw [ht] at h8; exact asgH_ok nv rm f h8 hQ
  · obtain ⟨p, h3, h4⟩ := bnd h1
    rw [iffO_eq h3]
    exact setH_ok nv S rm f h4 hQ
end Mine

end
section
open PySem PySem.W PyProof.Rows
set_option Elab.async false
set_option maxRecDepth 100000
namespace Mine

noncomputable def numB (B : Int) : List Nat → Int
  | [] => 0
  | d :: r => d + B * numB B r
theorem num_o (d x y z : Int) : d + (x + y) = x + (y - z) + (d + z) := by rw [Int.add_assoc x, Int.add_left_comm (y - z), Int.sub_add_cancel, Int.add_left_comm]
theorem numB_at (B c : Int) : ∀ ds : List Nat, ∃ q, numB B ds = q * (B - c) + numB c ds
  | [] => ⟨0, by rw [Int.zero_mul]; rfl⟩
  | d :: r => by
    obtain ⟨q, e⟩ := numB_at B c r
    refine ⟨B * q + numB c r, ?_⟩
    show (d : Int) + B * numB B r = (B * q + numB c r) * (B - c) + ((d : Int) + c * numB c r)
    rw [e, Int.add_mul, Int.mul_add, Int.mul_sub (numB c r), Int.mul_assoc, Int.mul_comm (numB c r) B, Int.mul_comm (numB c r) c]
    exact num_o ..
theorem left_e {n q d r : Int} (e : n = q * d + r) (h0 : 0 ≤ r) (h1 : r < d) : n % d = r := by
  rw [e, Int.add_comm, Int.mul_comm, Int.add_mul_emod_self_left]
  exact Int.emod_eq_of_lt h0 h1
end Mine

end
section
open PySem PySem.W PyProof.Rows
set_option Elab.async false
set_option maxRecDepth 100000
namespace Mine

noncomputable def dAlk : Stmt := defOf "_law_alike" Pb
noncomputable def idM (k : Nat) : D := .lst ((List.range k).map fun i => .lst ((List.range k).map fun j => .bool (Nat.beq i j)))
noncomputable def alkN : List D → Option D := fun ds => (sole intOf1 ds).bind fun i => tst (i == 2 || (i == 3 || i == 4)) (some (idM i.toNat))
variable {B : Bs} {L : Nat} {C p1 p2 : Nat}
noncomputable def recA (C p1 p2 : Nat) : Sv := evS (hkGrid (X12 C p1 p2) 12) (evE (X12 C p1 p2) 12) 9 12
theorem alk2 : runF (recA C p1 p2) (fnOf dAlk) [.int 2] = some (idM 2) := by unfold recA; kernel_rfl
theorem alk3 : runF (recA C p1 p2) (fnOf dAlk) [.int 3] = some (idM 3) := by unfold recA; kernel_rfl
theorem alk4 : runF (recA C p1 p2) (fnOf dAlk) [.int 4] = some (idM 4) := by unfold recA; kernel_rfl
theorem alkN_inv {ds : List D} {d : D} (h : alkN ds = some d) : (ds = [.int 2] ∧ d = idM 2) ∨ (ds = [.int 3] ∧ d = idM 3) ∨ (ds = [.int 4] ∧ d = idM 4) := by
  obtain ⟨i, h1, h2⟩ := bnd h
  obtain ⟨dx, rfl, e⟩ := sole_eq h1
  rw [intOf1_eq e]
  obtain ⟨h3, h4⟩ := tst_inv h2
  rw [← Option.some.inj h4]
  exact (Bool.or_eq_true_iff.mp h3).elim (fun e => .inl (by rw [beq_iff_eq.mp e]; exact ⟨rfl, rfl⟩)) fun h => .inr ((Bool.or_eq_true_iff.mp h).elim (fun e => .inl (by rw [beq_iff_eq.mp e]; exact ⟨rfl, rfl⟩)) fun e => .inr (by rw [beq_iff_eq.mp e]; exact ⟨rfl, rfl⟩))
noncomputable def X13 (C p1 p2 : Nat) : Nv := orN (X12 C p1 p2) (atN "_law_alike" alkN)
theorem X13_ok (nv : NvOk B L (X12 C p1 p2)) (hf : GfAt B "_law_alike" (fnOf dAlk)) : NvOk B (L + 1) (X13 C p1 p2) := by
  refine orF_ok (H := hkGrid (X12 C p1 p2) 12) (m := 12) (k := 9) (n := 12) nv (hkGrid_ok nv 12) hf fun ds d h => ?_
  rcases alkN_inv h with ⟨rfl, rfl⟩ | ⟨rfl, rfl⟩ | ⟨rfl, rfl⟩
  · exact alk2
  · exact alk3
  · exact alk4
end Mine

end
section
open PySem PySem.W PyProof.Rows
set_option Elab.async false
set_option maxRecDepth 100000
namespace Mine

noncomputable abbrev aC : Nat := 227
noncomputable abbrev aP1 : Nat := 99
noncomputable abbrev aP2 : Nat := 104
noncomputable def callA (e : Expr) : List Expr := (exP e).1
noncomputable def dLaw : Stmt := defOf "law" Pb
noncomputable def lsc : Kd := (stScope dLaw).names
noncomputable def bodyL : List Stmt := ifB ((stBody dLaw).getD 5 (.Pass default))
noncomputable def jud : D := .lst [idM 2, idM 3, idM 4]
noncomputable def prs (n : Nat) : List (Nat × Nat) := (List.range n).flatMap fun i => ((List.range n).filter fun j => Nat.blt i j).map fun j => (i, j)
noncomputable def prD (p : Nat × Nat) : D := .tup [.int p.1, .int p.2]
noncomputable def linesP (n m : Nat) : List (Nat × Nat) := ((List.range (prs n).length).filter fun k => m.testBit k).map fun k => (prs n).getD k (0, 0)
noncomputable def permsP (n : Nat) : Nat → List (List Nat)
  | 0 => [[]]
  | k + 1 => (permsP n k).flatMap fun r => ((List.range n).filter fun x => !r.contains x).map fun x => r ++ [x]
noncomputable def nameP (ls : List (Nat × Nat)) (o : List Nat) : List Nat := ls.map fun p => cond (Nat.blt (o.idxOf p.1) (o.idxOf p.2)) p.2 p.1
noncomputable def keptGo : List (List Nat) → Nat → List (List Nat) → List Nat
  | [], _, _ => []
  | x :: xs, k, seen => cond (seen.contains x) (keptGo xs (k + 1) seen) (k :: keptGo xs (k + 1) (x :: seen))
noncomputable def namesP (n : Nat) (ls : List (Nat × Nat)) : List (List Nat) := (permsP n n).map (nameP ls)
noncomputable def keptP (n : Nat) (ls : List (Nat × Nat)) : List Nat := keptGo (namesP n ls) 0 []
noncomputable def aloneP (n : Nat) (ls : List (Nat × Nat)) : Nat := ((keptP n ls).filter fun k => (List.range (n - 1)).all fun x => ((namesP n ls).getD k []).contains (x + 1)).length
noncomputable def midP (n : Nat) (ls : List (Nat × Nat)) : Nat := (keptP n ls).length - aloneP n ls - ls.length - 1
noncomputable def digsP (n : Nat) (ls : List (Nat × Nat)) : List Nat := 0 :: aloneP n ls :: (List.replicate (n - 3) (midP n ls) ++ [ls.length, 1])
noncomputable def nearP (ls : List (Nat × Nat)) (p : Nat) : List Nat := (ls.filter fun l => Nat.beq l.2 p).map Prod.fst
noncomputable def rowsP (k : Nat) (ls : List (Nat × Nat)) : Nat → List (List Nat)
  | 0 => [[0]]
  | p + 1 => (rowsP k ls p).flatMap fun r => ((List.range k).filter fun h => (nearP ls (p + 1)).all fun i => !Nat.beq (r.getD i 0) h).map fun h => r ++ [h]
noncomputable def natL (l : List Nat) : D := .lst (l.map fun (k : Nat) => D.int k)
noncomputable def sgn (n : Nat) : Int := cond (Nat.beq n 3) (-1) 1
noncomputable def duesP (n : Nat) (ds : List Nat) (b : Int) : List (Int × Int) := (b - 1, numB 1 ds) :: [2, 3, 4].map fun (k : Nat) => (sgn n * (b + k), numB (-(k : Int)) ds)
noncomputable def dueD (p : Int × Int) : D := .tup [.int p.1, .int p.2]
noncomputable def okDs (n : Nat) (ds : List Nat) : Bool := ds.all (fun d => Nat.blt d 256) && (Nat.blt 0 (numB 1 ds).toNat && (Nat.blt (numB 1 ds).toNat 255 && [2, 3, 4].all fun (k : Nat) => decide (0 ≤ sgn n * numB (-(k : Int)) ds) && decide (sgn n * numB (-(k : Int)) ds < 257)))
noncomputable def recL : Sv := evS (hkLaw (X13 aC aP1 aP2) 12 aC) (evE (X13 aC aP1 aP2) 12) 9 12
noncomputable def G1 (s : Str) (w b bits : Int) (pl : List D) : Gm := [(Str.ofString "judges", jud), (Str.ofString "width", .int w), (Str.ofString "base", .int b), (Str.ofString "letters", .str s), (Str.ofString "bits", .int bits), (Str.ofString "places", .lst pl)]
noncomputable def G2 (n : Nat) (ls : List (Nat × Nat)) (s : Str) (w b bits : Int) : Gm := G1 s w b bits ((prs n).map prD) ++ [(Str.ofString "lines", .lst (ls.map prD))]
noncomputable def G3 (s : Str) (w b : Int) (ls kept : D) (a c : Nat) : Gm := [(Str.ofString "judges", jud), (Str.ofString "width", .int w), (Str.ofString "base", .int b), (Str.ofString "letters", .str s), (Str.ofString "lines", ls), (Str.ofString "kept", kept), (Str.ofString "alone", .int a), (Str.ofString "middle", .lst [.int c])]
noncomputable def G5 (s : Str) (w b : Int) (ls : D) (t N : Int) (rows point near : D) : Gm := [(Str.ofString "judges", jud), (Str.ofString "width", .int w), (Str.ofString "base", .int b), (Str.ofString "letters", .str s), (Str.ofString "lines", ls), (Str.ofString "turned", .int t), (Str.ofString "number", .int N), (Str.ofString "k", .int 4), (Str.ofString "rows", rows), (Str.ofString "point", point), (Str.ofString "near", near)]
noncomputable def Run (n : Nat) (s : Str) (ls : List (Nat × Nat)) : Prop := ∀ (w b bits N : Int),
  (evSs recL lsc ((bodyL.drop 2).take 11) (G2 n ls s w b bits) [], each (evE (X13 aC aP1 aP2) 11 lsc (G3 s w b (.lst (ls.map prD)) (natL (keptP n ls)) (aloneP n ls) (midP n ls))) (callA (asV (bodyL.getD 13 (.Pass default)))),
    evSs recL lsc ((bodyL.drop 14).take 3) (G3 s w b (.lst (ls.map prD)) (natL (keptP n ls)) (aloneP n ls) (midP n ls) ++ [(Str.ofString "number", .int N)]) [], okDs n (digsP n ls)) =
  (some (.nxt, G3 s w b (.lst (ls.map prD)) (natL (keptP n ls)) (aloneP n ls) (midP n ls), []), some [natL (digsP n ls), .int w],
    some (.nxt, G5 s w b (.lst (ls.map prD)) (sgn n) N (.lst ((rowsP 4 ls (n - 1)).map natL)) (.int ((n - 1 : Nat) : Int)) (natL (nearP ls (n - 1))), [(Str.ofString "dues", .lst ((duesP n (digsP n ls) b).map dueD))]), true)
theorem upto {P : Nat → Prop} {k : Nat} (h : ∀ m, m < k → P m) (hk : P k) (m : Nat) (hm : m < k + 1) : P m := (Nat.lt_or_eq_of_le (Nat.le_of_lt_succ hm)).elim (h m) fun e => e ▸ hk
end Mine

end
section
open PySem PySem.W PyProof.Rows
set_option Elab.async false
set_option maxRecDepth 100000
namespace Mine
theorem g3_0 : Run 3 "abc" (linesP 3 0) := fun w b bits N => by kernel_rfl
theorem g3_1 : Run 3 "abc" (linesP 3 1) := fun w b bits N => by kernel_rfl
theorem g3_2 : Run 3 "abc" (linesP 3 2) := fun w b bits N => by kernel_rfl
theorem g3_3 : Run 3 "abc" (linesP 3 3) := fun w b bits N => by kernel_rfl
theorem g3_4 : Run 3 "abc" (linesP 3 4) := fun w b bits N => by kernel_rfl
theorem g3_5 : Run 3 "abc" (linesP 3 5) := fun w b bits N => by kernel_rfl
theorem g3_6 : Run 3 "abc" (linesP 3 6) := fun w b bits N => by kernel_rfl
theorem g3_7 : Run 3 "abc" (linesP 3 7) := fun w b bits N => by kernel_rfl
theorem g4_0 : Run 4 "abcd" (linesP 4 0) := fun w b bits N => by kernel_rfl
theorem g4_1 : Run 4 "abcd" (linesP 4 1) := fun w b bits N => by kernel_rfl
theorem g4_2 : Run 4 "abcd" (linesP 4 2) := fun w b bits N => by kernel_rfl
theorem g4_3 : Run 4 "abcd" (linesP 4 3) := fun w b bits N => by kernel_rfl
theorem g4_4 : Run 4 "abcd" (linesP 4 4) := fun w b bits N => by kernel_rfl
theorem g4_5 : Run 4 "abcd" (linesP 4 5) := fun w b bits N => by kernel_rfl
theorem g4_6 : Run 4 "abcd" (linesP 4 6) := fun w b bits N => by kernel_rfl
theorem g4_7 : Run 4 "abcd" (linesP 4 7) := fun w b bits N => by kernel_rfl
end Mine

end
section
open PySem PySem.W PyProof.Rows
set_option Elab.async false
set_option maxRecDepth 100000
namespace Mine
theorem g4_8 : Run 4 "abcd" (linesP 4 8) := fun w b bits N => by kernel_rfl
theorem g4_9 : Run 4 "abcd" (linesP 4 9) := fun w b bits N => by kernel_rfl
theorem g4_10 : Run 4 "abcd" (linesP 4 10) := fun w b bits N => by kernel_rfl
theorem g4_11 : Run 4 "abcd" (linesP 4 11) := fun w b bits N => by kernel_rfl
theorem g4_12 : Run 4 "abcd" (linesP 4 12) := fun w b bits N => by kernel_rfl
theorem g4_13 : Run 4 "abcd" (linesP 4 13) := fun w b bits N => by kernel_rfl
theorem g4_14 : Run 4 "abcd" (linesP 4 14) := fun w b bits N => by kernel_rfl
theorem g4_15 : Run 4 "abcd" (linesP 4 15) := fun w b bits N => by kernel_rfl
end Mine

end
section
open PySem PySem.W PyProof.Rows
set_option Elab.async false
set_option maxRecDepth 100000
namespace Mine
theorem g4_16 : Run 4 "abcd" (linesP 4 16) := fun w b bits N => by kernel_rfl
theorem g4_17 : Run 4 "abcd" (linesP 4 17) := fun w b bits N => by kernel_rfl
theorem g4_18 : Run 4 "abcd" (linesP 4 18) := fun w b bits N => by kernel_rfl
theorem g4_19 : Run 4 "abcd" (linesP 4 19) := fun w b bits N => by kernel_rfl
theorem g4_20 : Run 4 "abcd" (linesP 4 20) := fun w b bits N => by kernel_rfl
theorem g4_21 : Run 4 "abcd" (linesP 4 21) := fun w b bits N => by kernel_rfl
theorem g4_22 : Run 4 "abcd" (linesP 4 22) := fun w b bits N => by kernel_rfl
theorem g4_23 : Run 4 "abcd" (linesP 4 23) := fun w b bits N => by kernel_rfl
end Mine

end
section
open PySem PySem.W PyProof.Rows
set_option Elab.async false
set_option maxRecDepth 100000
namespace Mine
theorem g4_24 : Run 4 "abcd" (linesP 4 24) := fun w b bits N => by kernel_rfl
theorem g4_25 : Run 4 "abcd" (linesP 4 25) := fun w b bits N => by kernel_rfl
theorem g4_26 : Run 4 "abcd" (linesP 4 26) := fun w b bits N => by kernel_rfl
theorem g4_27 : Run 4 "abcd" (linesP 4 27) := fun w b bits N => by kernel_rfl
theorem g4_28 : Run 4 "abcd" (linesP 4 28) := fun w b bits N => by kernel_rfl
theorem g4_29 : Run 4 "abcd" (linesP 4 29) := fun w b bits N => by kernel_rfl
theorem g4_30 : Run 4 "abcd" (linesP 4 30) := fun w b bits N => by kernel_rfl
theorem g4_31 : Run 4 "abcd" (linesP 4 31) := fun w b bits N => by kernel_rfl
end Mine

end
section
open PySem PySem.W PyProof.Rows
set_option Elab.async false
set_option maxRecDepth 100000
namespace Mine
theorem g4_32 : Run 4 "abcd" (linesP 4 32) := fun w b bits N => by kernel_rfl
theorem g4_33 : Run 4 "abcd" (linesP 4 33) := fun w b bits N => by kernel_rfl
theorem g4_34 : Run 4 "abcd" (linesP 4 34) := fun w b bits N => by kernel_rfl
theorem g4_35 : Run 4 "abcd" (linesP 4 35) := fun w b bits N => by kernel_rfl
theorem g4_36 : Run 4 "abcd" (linesP 4 36) := fun w b bits N => by kernel_rfl
theorem g4_37 : Run 4 "abcd" (linesP 4 37) := fun w b bits N => by kernel_rfl
theorem g4_38 : Run 4 "abcd" (linesP 4 38) := fun w b bits N => by kernel_rfl
theorem g4_39 : Run 4 "abcd" (linesP 4 39) := fun w b bits N => by kernel_rfl
end Mine

end
section
open PySem PySem.W PyProof.Rows
set_option Elab.async false
set_option maxRecDepth 100000
namespace Mine
theorem g4_40 : Run 4 "abcd" (linesP 4 40) := fun w b bits N => by kernel_rfl
theorem g4_41 : Run 4 "abcd" (linesP 4 41) := fun w b bits N => by kernel_rfl
theorem g4_42 : Run 4 "abcd" (linesP 4 42) := fun w b bits N => by kernel_rfl
theorem g4_43 : Run 4 "abcd" (linesP 4 43) := fun w b bits N => by kernel_rfl
theorem g4_44 : Run 4 "abcd" (linesP 4 44) := fun w b bits N => by kernel_rfl
theorem g4_45 : Run 4 "abcd" (linesP 4 45) := fun w b bits N => by kernel_rfl
theorem g4_46 : Run 4 "abcd" (linesP 4 46) := fun w b bits N => by kernel_rfl
theorem g4_47 : Run 4 "abcd" (linesP 4 47) := fun w b bits N => by kernel_rfl
end Mine

end
section
open PySem PySem.W PyProof.Rows
set_option Elab.async false
set_option maxRecDepth 100000
namespace Mine
theorem g4_48 : Run 4 "abcd" (linesP 4 48) := fun w b bits N => by kernel_rfl
theorem g4_49 : Run 4 "abcd" (linesP 4 49) := fun w b bits N => by kernel_rfl
theorem g4_50 : Run 4 "abcd" (linesP 4 50) := fun w b bits N => by kernel_rfl
theorem g4_51 : Run 4 "abcd" (linesP 4 51) := fun w b bits N => by kernel_rfl
theorem g4_52 : Run 4 "abcd" (linesP 4 52) := fun w b bits N => by kernel_rfl
theorem g4_53 : Run 4 "abcd" (linesP 4 53) := fun w b bits N => by kernel_rfl
theorem g4_54 : Run 4 "abcd" (linesP 4 54) := fun w b bits N => by kernel_rfl
theorem g4_55 : Run 4 "abcd" (linesP 4 55) := fun w b bits N => by kernel_rfl
end Mine

end
section
open PySem PySem.W PyProof.Rows
set_option Elab.async false
set_option maxRecDepth 100000
namespace Mine
theorem g4_56 : Run 4 "abcd" (linesP 4 56) := fun w b bits N => by kernel_rfl
theorem g4_57 : Run 4 "abcd" (linesP 4 57) := fun w b bits N => by kernel_rfl
theorem g4_58 : Run 4 "abcd" (linesP 4 58) := fun w b bits N => by kernel_rfl
theorem g4_59 : Run 4 "abcd" (linesP 4 59) := fun w b bits N => by kernel_rfl
theorem g4_60 : Run 4 "abcd" (linesP 4 60) := fun w b bits N => by kernel_rfl
theorem g4_61 : Run 4 "abcd" (linesP 4 61) := fun w b bits N => by kernel_rfl
theorem g4_62 : Run 4 "abcd" (linesP 4 62) := fun w b bits N => by kernel_rfl
theorem g4_63 : Run 4 "abcd" (linesP 4 63) := fun w b bits N => by kernel_rfl
end Mine

end
section
open PySem PySem.W PyProof.Rows
set_option Elab.async false
set_option maxRecDepth 100000
namespace Mine
theorem runs3 : ∀ m, m < 8 → Run 3 "abc" (linesP 3 m) := (upto (upto (upto (upto (upto (upto (upto (upto (fun _ h => absurd h (Nat.not_lt_zero _)) g3_0) g3_1) g3_2) g3_3) g3_4) g3_5) g3_6) g3_7)
theorem runs4 : ∀ m, m < 64 → Run 4 "abcd" (linesP 4 m) := (upto (upto (upto (upto (upto (upto (upto (upto (upto (upto (upto (upto (upto (upto (upto (upto (upto (upto (upto (upto (upto (upto (upto (upto (upto (upto (upto (upto (upto (upto (upto (upto (upto (upto (upto (upto (upto (upto (upto (upto (upto (upto (upto (upto (upto (upto (upto (upto (upto (upto (upto (upto (upto (upto (upto (upto (upto (upto (upto (upto (upto (upto (upto (upto (fun _ h => absurd h (Nat.not_lt_zero _)) g4_0) g4_1) g4_2) g4_3) g4_4) g4_5) g4_6) g4_7) g4_8) g4_9) g4_10) g4_11) g4_12) g4_13) g4_14) g4_15) g4_16) g4_17) g4_18) g4_19) g4_20) g4_21) g4_22) g4_23) g4_24) g4_25) g4_26) g4_27) g4_28) g4_29) g4_30) g4_31) g4_32) g4_33) g4_34) g4_35) g4_36) g4_37) g4_38) g4_39) g4_40) g4_41) g4_42) g4_43) g4_44) g4_45) g4_46) g4_47) g4_48) g4_49) g4_50) g4_51) g4_52) g4_53) g4_54) g4_55) g4_56) g4_57) g4_58) g4_59) g4_60) g4_61) g4_62) g4_63)
end Mine

end
section
open PySem PySem.W PyProof.Rows
set_option Elab.async false
set_option maxRecDepth 100000
set_option exponentiation.threshold 10000
namespace Mine

theorem numB_val (w : Nat) : ∀ ds : List Nat, val w (ds.map fun (k : Nat) => (k : Int)) = numB (2 ^ w) ds
  | [] => rfl
  | d :: r => congrArg ((d : Int) + ·) ((Int.mul_comm _ _).trans (congrArg ((2 : Int) ^ w * ·) (numB_val w r)))
noncomputable def numN (B : Nat) : List Nat → Nat
  | [] => 0
  | d :: r => d + B * numN B r
theorem numB_N (B : Nat) : ∀ ds : List Nat, numB (B : Int) ds = (numN B ds : Nat)
  | [] => rfl
  | d :: r => congrArg (fun x : Int => (d : Int) + (B : Int) * x) (numB_N B r)
theorem numN_mono {B : Nat} (hB : 1 ≤ B) : ∀ ds : List Nat, numN 1 ds ≤ numN B ds
  | [] => Nat.le_refl _
  | d :: r => Nat.add_le_add_left (Nat.mul_le_mul hB (numN_mono hB r)) d
theorem numN_lt {B : Nat} : ∀ ds : List Nat, (∀ d ∈ ds, d < B) → numN B ds < B ^ ds.length
  | [], _ => Nat.one_pos
  | d :: r, h => by
    refine Nat.lt_of_lt_of_le (Nat.add_lt_add_right (h d List.mem_cons_self) _) ?_
    rw [List.length_cons, Nat.pow_succ', Nat.add_comm, ← Nat.mul_succ]
    exact Nat.mul_le_mul_left _ (numN_lt r fun x hx => h x (List.mem_cons_of_mem _ hx))
theorem bits_abs {a : Int} {k : Nat} (h : a.natAbs < 2 ^ k) : Builtin.Int.intBits a ≤ k := by
  unfold Builtin.Int.intBits
  split
  · exact Nat.zero_le _
  · rename_i h0
    exact (Nat.log2_lt (by simpa using h0)).mpr h
theorem ndq {y n w : Nat} (h : y ≤ 5 * w) (h1 : w ≤ n) (h8 : 8 ≤ w) : y + n - 1 < n * 65 := by
  refine Nat.lt_of_le_of_lt (Nat.sub_le _ _) (Nat.lt_of_le_of_lt (Nat.add_le_add_right (Nat.le_trans h (Nat.mul_le_mul_left 5 h1)) n) ?_)
  rw [← Nat.succ_mul, Nat.mul_comm n]
  exact Nat.mul_lt_mul_of_pos_right (by decide) (Nat.lt_of_lt_of_le (by decide) (Nat.le_trans h8 h1))
theorem ndig_le {x dv w : Nat} (hx : x < 2 ^ (5 * w)) (h8 : 8 ≤ w) (hd : 2 ^ (w - 1) ≤ dv) : ndig x (Builtin.Int.intBits (dv : Int)) ≤ 64 := by
  have h1 : w ≤ Builtin.Int.intBits (dv : Int) := (Nat.lt_or_ge (Builtin.Int.intBits (dv : Int)) w).elim
    (fun h => absurd (Nat.lt_of_lt_of_le (lt_pow_bits dv) (Nat.le_trans (Nat.pow_le_pow_right Nat.two_pos (Nat.le_pred_of_lt h)) hd)) (Nat.lt_irrefl _)) id
  exact Nat.le_of_lt_succ (Nat.div_lt_of_lt_mul (ndq (intBits_nat hx) h1 h8))
structure OkD (n : Nat) (ds : List Nat) : Prop where
  d : ∀ d ∈ ds, d < 256
  s0 : 0 < (numB 1 ds).toNat
  s1 : (numB 1 ds).toNat < 255
  k : ∀ k ∈ [2, 3, 4], 0 ≤ sgn n * numB (-((k : Nat) : Int)) ds ∧ sgn n * numB (-((k : Nat) : Int)) ds < 257
theorem OkD.of {n : Nat} {ds : List Nat} (h : okDs n ds = true) : OkD n ds :=
  have h1 := Bool.and_eq_true_iff.mp h
  have h2 := Bool.and_eq_true_iff.mp h1.2
  have h3 := Bool.and_eq_true_iff.mp h2.2
  ⟨fun d hd => Nat.le_of_ble_eq_true (List.all_eq_true.mp h1.1 d hd), Nat.le_of_ble_eq_true h2.1, Nat.le_of_ble_eq_true h3.1, fun k hk =>
    have q := Bool.and_eq_true_iff.mp (List.all_eq_true.mp h3.2 k hk)
    ⟨of_decide_eq_true q.1, of_decide_eq_true q.2⟩⟩
theorem o1 {b x : Int} (e : x < b) : x ≤ b - 1 := Int.le_sub_one_of_lt e
theorem o2 {b : Int} (h : 256 ≤ b) : b - 1 < b + b := Int.lt_of_lt_of_le (Int.sub_lt_self b (by decide)) (Int.le_add_of_nonneg_left (Int.le_trans (by decide) h))
theorem o3 {b s : Int} (h : 256 ≤ b) (e : s < 255) : s < b - 1 := Int.lt_of_lt_of_le e (Int.sub_le_sub_right h 1)
theorem o4 {b x k : Int} (e : x < b) (k0 : 2 ≤ k) : x ≤ b + k := Int.le_trans (Int.le_of_lt e) (Int.le_add_of_nonneg_right (Int.le_trans (by decide) k0))
theorem o5 {b k : Int} (h : 256 ≤ b) (k4 : k ≤ 4) : b + k < b + b := Int.add_lt_add_left (Int.lt_of_le_of_lt k4 (Int.lt_of_lt_of_le (by decide) h)) b
theorem o6 {b r k : Int} (h : 256 ≤ b) (k2 : 2 ≤ k) (e : r < 257) : r < b + k := Int.lt_of_lt_of_le (Int.lt_trans e (by decide : (257 : Int) < 256 + 2)) (Int.add_le_add h k2)
theorem o7 {p v : Int} (h : 0 < p) (e : p ≤ v) : 0 < v := Int.lt_of_lt_of_le h e
theorem o8 {x w : Nat} (h : x ≤ w + 1) (hw : w ≤ 4107) : x ≤ 4200 := Nat.le_trans h (Nat.le_trans (Nat.succ_le_succ hw) (by decide))
theorem o9 {w : Nat} (hw : w ≤ 4107) : 5 * w ≤ 2 ^ 16 := Nat.le_trans (Nat.mul_le_mul_left 5 hw) (by decide)
theorem oa {w : Nat} (hw : w ≤ 4107) : w + 1 ≤ 2 ^ 16 := Nat.le_trans (Nat.succ_le_succ hw) (by decide)
theorem ob (N : Nat) : ((N : Int) - 1).toNat ≤ N := Int.toNat_le.mpr (Int.sub_le_self _ (by decide))
theorem two_w {w : Nat} (h8 : 8 ≤ w) : (256 : Int) ≤ 2 ^ w ∧ (2 : Int) ^ (w - 1) < 2 ^ w ∧ (2 : Int) ^ (w + 1) = 2 ^ w + 2 ^ w := by
  obtain ⟨k, rfl⟩ := Nat.exists_eq_add_of_le' h8
  have hp : (1 : Int) ≤ 2 ^ k := Int.pow_pos (by decide)
  refine ⟨?_, ?_, (Int.pow_succ' ..).trans (Int.two_mul _)⟩
  · rw [Int.pow_add]
    exact Int.mul_le_mul_of_nonneg_right (c := 2 ^ 8) hp (by decide)
  · rw [show (2 : Int) ^ (k + 8) = 2 ^ (k + 7) + 2 ^ (k + 7) from (Int.pow_succ' ..).trans (Int.two_mul _)]
    exact Int.lt_add_of_pos_left _ (Int.pow_pos (by decide))
section
variable {C p1 p2 n w : Nat} {ds : List Nat}
theorem num_all (h8 : 8 ≤ w) (hl : ds.length ≤ 5) (ok : OkD n ds) : ∃ N : Nat, numB (2 ^ w) ds = N ∧ 0 < N ∧ N < 2 ^ (5 * w) := by
  have e : (2 : Int) ^ w = ((2 ^ w : Nat) : Int) := (Int.natCast_pow 2 w).symm
  have h256 : 2 ^ 8 ≤ 2 ^ w := Nat.pow_le_pow_right Nat.two_pos h8
  have h1 : 1 ≤ 2 ^ w := Nat.le_trans (by decide) h256
  have e1 : (numB 1 ds).toNat = numN 1 ds := congrArg Int.toNat (numB_N 1 ds)
  refine ⟨numN (2 ^ w) ds, by rw [e]; exact numB_N _ ds, Nat.lt_of_lt_of_le (e1 ▸ ok.s0) (numN_mono h1 ds), Nat.lt_of_lt_of_le (numN_lt ds fun d hd => Nat.lt_of_lt_of_le (ok.d d hd) h256) ?_⟩
  rw [← Nat.pow_mul, Nat.mul_comm]
  exact Nat.pow_le_pow_right Nat.two_pos (Nat.mul_le_mul_right w hl)
theorem dmN_b {a b : Int} (hb : b < 0) : dmN [.int a, .int b] = none := by
  show (match decide (0 ≤ a) && decide (0 < b) && Nat.ble (Builtin.Int.intBits b) 4200 && Nat.ble (ndig a.toNat (Builtin.Int.intBits b)) 64 with
    | true => some (D.tup [.int (a / b), .int (a % b)])
    | false => none) = none
  rw [decide_eq_false (Int.lt_asymm hb), Bool.and_false]; rfl
theorem ngN_a {a b : Int} (ha : 0 < a) : ngN [.int a, .int b] = none := by
  show (match decide (a < 0) with
    | true => match dmP (-a - 1, b) with
      | some _ => some (D.tup [.int (a / b), .int (a % b)])
      | none => none
    | false => none) = none
  rw [decide_eq_false (Int.lt_asymm ha)]
structure Dv (w N v : Nat) : Prop where
  v0 : 0 < v
  b1 : Builtin.Int.intBits (v : Int) ≤ w + 1
  b2 : Builtin.Int.intBits (v : Int) ≤ 4200
  nd : ∀ x ≤ N, ndig x (Builtin.Int.intBits (v : Int)) ≤ 64
  qb : ∀ q : Int, q.natAbs ≤ N → Builtin.Int.intBits q ≤ 2 ^ 16
theorem Dv.of {N : Nat} {dv : Int} (h8 : 8 ≤ w) (hw : w ≤ 4107) (hN : N < 2 ^ (5 * w)) (hd : (2 : Int) ^ (w - 1) ≤ dv) (hd' : dv < 2 ^ (w + 1)) : ∃ v : Nat, dv = v ∧ Dv w N v := by
  have hp : (0 : Int) < 2 ^ (w - 1) := Int.pow_pos (by decide)
  obtain ⟨v, rfl⟩ := Int.eq_ofNat_of_zero_le (Int.le_of_lt (o7 hp hd))
  have hb := intBits_le (Int.natCast_nonneg v) hd'
  refine ⟨v, rfl, Int.ofNat_lt.mp (o7 hp hd), hb, o8 hb hw, fun x hx => ndig_le (Nat.lt_of_le_of_lt hx hN) h8 (Int.ofNat_le.mp ?_), fun q hq => Nat.le_trans (bits_abs (Nat.lt_of_le_of_lt hq hN)) (o9 hw)⟩
  rw [Int.natCast_pow]; exact hd
noncomputable def DvOk (C p1 p2 : Nat) (N dv r : Int) : Prop := ∃ q : Int, (X13 C p1 p2).N "int_divmod" [.int N, .int dv] = some (.tup [.int q, .int r]) ∧ q * dv + r = N ∧ Builtin.Int.intBits q ≤ 2 ^ 16 ∧ Builtin.Int.intBits dv ≤ 2 ^ 16
theorem div_up {N : Nat} {dv r : Int} (h8 : 8 ≤ w) (hw : w ≤ 4107) (hN : N < 2 ^ (5 * w)) (hd : (2 : Int) ^ (w - 1) ≤ dv) (hd' : dv < 2 ^ (w + 1)) (hr : (N : Int) % dv = r) : DvOk C p1 p2 N dv r := by
  obtain ⟨v, rfl, hv⟩ := Dv.of h8 hw hN hd hd'
  subst hr
  refine ⟨(N : Int) / v, ?_, by rw [Int.mul_comm, Int.add_comm]; exact Int.emod_add_mul_ediv _ _, hv.qb _ (Int.natAbs_ediv_le_natAbs _ _), Nat.le_trans hv.b1 (oa hw)⟩
  exact orN_old (orN_old (addF_old (orN_old (orN_old (orN_new (by kernel_rfl) (dmN_eq (Int.natCast_nonneg _) (Int.ofNat_lt.mpr hv.v0) hv.b2 (hv.nd N (Nat.le_refl _))))))))
theorem div_down {N : Nat} {dv r : Int} (h8 : 8 ≤ w) (hw : w ≤ 4107) (h0 : 0 < N) (hN : N < 2 ^ (5 * w)) (hd : (2 : Int) ^ (w - 1) ≤ dv) (hd' : dv < 2 ^ (w + 1)) (hr : -(-(N : Int) % dv) = r) : DvOk C p1 p2 N (-dv) r := by
  obtain ⟨v, rfl, hv⟩ := Dv.of h8 hw hN hd hd'
  subst hr
  have hneg : Builtin.Int.intBits (-(v : Int)) ≤ 2 ^ 16 := bits_abs (by rw [Int.natAbs_neg]; exact Nat.lt_of_lt_of_le (lt_pow_bits v) (Nat.pow_le_pow_right Nat.two_pos (Nat.le_trans hv.b1 (oa hw))))
  have hlt : -(v : Int) < 0 := Int.neg_neg_of_pos (Int.ofNat_lt.mpr hv.v0)
  have h0' : (0 : Int) < N := Int.ofNat_lt.mpr h0
  refine ⟨-(N : Int) / v, ?_, ?_, hv.qb _ ?_, hneg⟩
  · have hc : idN [.int (N : Int), .int (-(v : Int))] = some (idV [.int (N : Int), .int (-(v : Int))]) := ifN_eq (.mk h0' hlt (by rw [Int.neg_neg]; exact hv.b2) (by rw [Int.neg_neg]; exact hv.nd _ (ob N)))
    have hv : idV [.int (N : Int), .int (-(v : Int))] = .tup [.int (-(N : Int) / - -(v : Int)), .int (-(-(N : Int) % - -(v : Int)))] := rfl
    rw [Int.neg_neg] at hv
    exact orN_old (orN_old (addF_old (orN_new (orN_none (orN_none (by kernel_rfl) (dmN_b hlt)) (ngN_a h0')) (hc.trans (congrArg some hv)))))
  · rw [Int.mul_neg, Int.mul_comm, ← Int.neg_add, Int.add_comm, Int.emod_add_mul_ediv, Int.neg_neg]
  · exact Nat.le_trans (Int.natAbs_ediv_le_natAbs _ _) (Nat.le_of_eq (Int.natAbs_neg _))
theorem k24 : ∀ k ∈ [2, 3, 4], 2 ≤ k ∧ k ≤ 4 := by decide
theorem divs (hn : n = 3 ∨ n = 4) (h8 : 8 ≤ w) (hw : w ≤ 4107) (hl : ds.length ≤ 5) (ok : OkD n ds) : ∀ p ∈ duesP n ds (2 ^ w), DvOk C p1 p2 (numB (2 ^ w) ds) p.1 p.2 := by
  intro p hp
  obtain ⟨N, hN, h0, h1⟩ := num_all h8 hl ok
  obtain ⟨hb, e2, e1⟩ := two_w h8
  have hd := fun c => numB_at (2 ^ w) c ds
  rw [hN] at hd ⊢
  rcases List.mem_cons.mp hp with rfl | hp
  · obtain ⟨q, hq⟩ := hd 1
    have s1 : (numB 1 ds).toNat < 255 := ok.s1
    rw [show numB 1 ds = _ from numB_N 1 ds] at s1 hq ⊢
    exact div_up h8 hw h1 (o1 e2) (e1 ▸ o2 hb) (left_e hq (Int.natCast_nonneg _) (o3 hb (Int.ofNat_lt.mpr s1)))
  · obtain ⟨k, hk, rfl⟩ := List.mem_map.mp hp
    obtain ⟨k2, k4⟩ := k24 k hk
    obtain ⟨r0, r1⟩ := ok.k k hk
    have k2 := Int.ofNat_le.mpr k2
    have k4 := Int.ofNat_le.mpr k4
    obtain ⟨q, hq⟩ := hd (-(k : Int))
    rw [Int.sub_neg] at hq
    rcases hn with rfl | rfl
    · have es : ∀ x : Int, sgn 3 * x = -x := fun x => (Int.neg_mul 1 x).trans (by rw [Int.one_mul])
      rw [es] at r0 r1
      show DvOk C p1 p2 N (sgn 3 * (2 ^ w + (k : Int))) _
      rw [es]
      refine div_down h8 hw h0 h1 (o4 e2 k2) (e1 ▸ o5 hb k4) ?_
      rw [left_e (n := -(N : Int)) (q := -q) (r := -numB (-(k : Int)) ds) (by rw [hq, Int.neg_add, Int.neg_mul]) r0 (o6 hb k2 r1), Int.neg_neg]
    · have es : ∀ x : Int, sgn 4 * x = x := Int.one_mul
      rw [es] at r0 r1
      show DvOk C p1 p2 N (sgn 4 * (2 ^ w + (k : Int))) _
      rw [es]
      exact div_up h8 hw h1 (o4 e2 k2) (e1 ▸ o5 hb k4) (left_e hq r0 (o6 hb k2 r1))
end
end Mine

end
section
open PySem PySem.W PyProof.Rows
set_option Elab.async false
set_option maxRecDepth 100000
set_option exponentiation.threshold 10000
namespace Mine

section
variable {X : Nv} {n q k m C : Nat} {sc : Kd} {Γ Γ1 Γ2 : Gm} {Ω Ω2 : Om} {H : Hk} {ev : Kd → Gm → Expr → Option D}
theorem evS_hk {st : Stmt} {r : Rs} (h : H.S sc Γ Ω st = some r) : evS H ev k (m + 1) sc Γ Ω st = some r := by
  show (match H.S sc Γ Ω st with
    | some r => some r
    | none => evB ev k (evS H ev k m) sc Γ Ω st) = _
  rw [h]
theorem law_asg {x : Str} {px p : Pos} {v : Expr} {d : D} (hs : (storable sc x && !strEq x "dues") = true) (ht : strEq x "table" = false) (hb : look befT x = none) (ha : look aftT x = none) (h : evE X q sc Γ v = some d) : (hkLaw X q C).S sc Γ Ω (.Assign [.Name x px] v p) = some (.nxt, put Γ x d, del Ω x) := by
  have e : asgH X q sc Γ Ω x v = some (.nxt, put Γ x d, del Ω x) := by
    unfold asgH
    rw [hs, hb, ha]
    show ((evF (evE X q sc) Γ Ω v).bind _) = _
    rw [evF_of h]; rfl
  show orE (cond (strEq x "table") (newD X q C sc Γ Ω x v) (asgH X q sc Γ Ω x v)) some _ = _
  rw [ht, e]; rfl
theorem evE_or2 {a b : Expr} {p : Pos} {v : Bool} (h1 : evE X n sc Γ a = some (.bool false)) (h2 : evE X n sc Γ b = some (.bool v)) : evE X (n + 1) sc Γ (.BoolOp .Or [a, b] p) = some (.bool v) := by
  show ((evE X n sc Γ a).bind fun d => (truth d).bind fun t => cond (!t) (evE X n sc Γ b) (some d)) = _
  rw [h1]; exact h2
theorem forD_cons {t : Expr} {body : Gm → Om → Option Rs} {x : D} {xs : List D} (h1 : bindT sc t x Γ = some Γ1) (h2 : body Γ1 (delT Ω t) = some (.nxt, Γ2, Ω2)) : forD sc t body (x :: xs) Γ Ω = forD sc t body xs Γ2 Ω2 := by
  show (match bindT sc t x Γ with
    | none => none
    | some Γ1 => match body Γ1 (delT Ω t) with
      | none => none
      | some (fl, Γ2, Ω2) => match fl with
        | .nxt => forD sc t body xs Γ2 Ω2
        | .cnt => forD sc t body xs Γ2 Ω2
        | .brk => some (.nxt, Γ2, Ω2)
        | .ret d => some (.ret d, Γ2, Ω2)) = _
  rw [h1]; dsimp only; rw [h2]
theorem testsD_of {f : Expr → Option D} {e : Expr} {d : D} {b : Bool} (h : f e = some d) (hb : truth d = some b) : testsD f [e] = some b := by
  show ((f e).bind fun d => (truth d).bind fun b => cond b (some true) (some false)) = _
  rw [h]
  show ((truth d).bind fun b => cond b (some true) (some false)) = _
  rw [hb]; cases b <;> rfl
theorem ne_D {a b : Int} (h : a = b) : cmpD .NotEq (.int a) (.int b) = some false := by
  subst h
  show (some (a == a)).map not = _
  rw [beq_self_eq_true]; rfl
end
noncomputable def bitB (bits : Int) (k : Nat) : Bool := Builtin.bitAnd (bits.fdiv (2 ^ k)) 1 != 0
noncomputable def lnG (n k : Nat) : D := prD ((prs n).getD k (0, 0))
noncomputable def st (i : Nat) : Stmt := bodyL.getD i (.Pass default)
noncomputable def compS (e : Expr) : Kd := (exP e).2.1
noncomputable def genI (e : Expr) : Expr := (exP e).2.2
section
variable {n : Nat} {s : Str} {w b bits : Int} {ls : List (Nat × Nat)}
theorem lines_ev {N : Nat} (hN : (prs n).length = N) (hr : evE (X13 aC aP1 aP2) 11 lsc (G1 s w b bits ((prs n).map prD)) (genI (asV (st 1))) = some (.rng 0 N)) (hx : iterD (.rng 0 N) = some ((List.range N).map fun (k : Nat) => D.int k)) (h1000 : N ≤ 1000)
    (hi : ∀ i, i < N → itemD (.lst ((prs n).map prD)) (.int i) = some (lnG n i)) (hl : ((List.range N).filter (bitB bits)).map (lnG n) = ls.map prD) :
    evS (hkLaw (X13 aC aP1 aP2) 12 aC) (evE (X13 aC aP1 aP2) 12) 9 12 lsc (G1 s w b bits ((prs n).map prD)) [] (st 1) = some (.nxt, G2 n ls s w b bits, []) := by
  have e : evE (X13 aC aP1 aP2) 12 lsc (G1 s w b bits ((prs n).map prD)) (asV (st 1)) = some (.lst (ls.map prD)) := by
    have hlen : Nat.ble (ls.map prD).length 1000 = true := by
      rw [← hl, List.length_map]
      refine Nat.ble_eq_true_of_le (Nat.le_trans (List.length_filter_le _ _) ?_)
      rw [List.length_range]; exact h1000
    refine evE_comp (d := .rng 0 N) rfl rfl (by kernel_rfl) hr hx ?_ hlen
    refine (compL_map (p := bitB bits) (g := lnG n) fun i hi' => ?_).trans (congrArg some hl)
    have hi' := List.mem_range.mp hi'
    refine ⟨put (freeG (G1 s w b bits ((prs n).map prD)) (compS (asV (st 1)))) "k" (.int i), by kernel_rfl, ?_, fun _ => ?_⟩
    · exact testsD_of (evE_bin (a := .int (bits.fdiv (2 ^ (i : Int).toNat))) (b := .int 1) (evE_bin (a := .int bits) (b := .int i) (by kernel_rfl) (by kernel_rfl) (shr_D (Int.natCast_nonneg i))) (by kernel_rfl) rfl) rfl
    · exact compI_nil (evE_item rfl (by kernel_rfl) (by kernel_rfl) (hi i hi'))
  exact (evS_hk (law_asg rfl rfl rfl rfl e)).trans (by kernel_rfl)
end
end Mine

end
section
open PySem PySem.W PyProof.Rows
set_option Elab.async false
set_option maxRecDepth 100000
set_option exponentiation.threshold 10000
namespace Mine

theorem dbl (m : Nat) (b : Bool) : (2 * m + b.toNat) / 2 = m ∧ (2 * m + b.toNat) % 2 = b.toNat := ⟨by rw [Nat.mul_add_div Nat.two_pos]; cases b <;> rfl, by rw [Nat.mul_add_mod]; cases b <;> rfl⟩
theorem dbl_lt {m N : Nat} (b : Bool) (h : m < 2 ^ N) : 2 * m + b.toNat < 2 ^ (N + 1) := by
  rw [Nat.pow_succ']
  exact Nat.lt_of_lt_of_le (Nat.add_lt_add_left (by cases b <;> decide : b.toNat < 2) _) (Nat.mul_le_mul_left 2 h)
theorem bits_num : ∀ (N : Nat) (β : Nat → Bool), ∃ m : Nat, m < 2 ^ N ∧ ∀ i, i < N → m.testBit i = β i
  | 0, _ => ⟨0, Nat.one_pos, fun _ h => absurd h (Nat.not_lt_zero _)⟩
  | N + 1, β => by
    obtain ⟨m, h1, h2⟩ := bits_num N fun i => β (i + 1)
    obtain ⟨h3, h4⟩ := dbl m (β 0)
    refine ⟨2 * m + (β 0).toNat, dbl_lt _ h1, fun i hi => ?_⟩
    cases i with
    | zero => rw [Nat.testBit_zero, h4]; cases β 0 <;> rfl
    | succ i => rw [Nat.testBit_succ, h3]; exact h2 i (Nat.lt_of_succ_lt_succ hi)
theorem item_at {n i : Nat} (h : i < (prs n).length) (hi : i < 1000) : itemD (.lst ((prs n).map prD)) (.int i) = some (lnG n i) := by
  have e : ((prs n).map prD)[i]? = some (lnG n i) := by
    unfold lnG
    rw [List.getElem?_map, List.getElem?_eq_getElem h, List.getD_eq_getElem?_getD, List.getElem?_eq_getElem h]; rfl
  unfold itemD
  dsimp only
  rw [if_pos ⟨Int.natCast_nonneg _, Int.lt_trans (Int.ofNat_lt.mpr hi) (by decide)⟩, Int.toNat_natCast, e]
section
variable {n : Nat}
theorem lines_n {N : Nat} (hN : (prs n).length = N) (h6 : N < 1000) (hr : ∀ s w b bits, evE (X13 aC aP1 aP2) 11 lsc (G1 s w b bits ((prs n).map prD)) (genI (asV (st 1))) = some (.rng 0 N)) (hx : iterD (.rng 0 N) = some ((List.range N).map fun (k : Nat) => D.int k)) (bits : Int) :
    ∃ m, m < 2 ^ N ∧ ∀ s w b, evS (hkLaw (X13 aC aP1 aP2) 12 aC) (evE (X13 aC aP1 aP2) 12) 9 12 lsc (G1 s w b bits ((prs n).map prD)) [] (st 1) = some (.nxt, G2 n (linesP n m) s w b bits, []) := by
  obtain ⟨m, hm, hb⟩ := bits_num N (bitB bits)
  refine ⟨m, hm, fun s w b => lines_ev hN (hr s w b bits) hx (Nat.le_of_lt h6) (fun i hi => item_at (hN ▸ hi) (Nat.lt_trans hi h6)) ?_⟩
  rw [List.filter_congr (q := fun k => m.testBit k) fun i hi => (hb i (List.mem_range.mp hi)).symm]
  unfold linesP
  rw [List.map_map, hN]; rfl
theorem lines3 (bits : Int) : ∃ m, m < 8 ∧ ∀ s w b, evS (hkLaw (X13 aC aP1 aP2) 12 aC) (evE (X13 aC aP1 aP2) 12) 9 12 lsc (G1 s w b bits ((prs 3).map prD)) [] (st 1) = some (.nxt, G2 3 (linesP 3 m) s w b bits, []) :=
  lines_n (n := 3) (N := 3) rfl (by decide) (fun _ _ _ _ => by kernel_rfl) (by kernel_rfl) bits
theorem lines4 (bits : Int) : ∃ m, m < 64 ∧ ∀ s w b, evS (hkLaw (X13 aC aP1 aP2) 12 aC) (evE (X13 aC aP1 aP2) 12) 9 12 lsc (G1 s w b bits ((prs 4).map prD)) [] (st 1) = some (.nxt, G2 4 (linesP 4 m) s w b bits, []) :=
  lines_n (n := 4) (N := 6) rfl (by decide) (fun _ _ _ _ => by kernel_rfl) (by kernel_rfl) bits
end
section
variable {n w : Nat} {s : Str} {b bits : Int} {ls : List (Nat × Nat)}
theorem number_ev {kept : D} {a c : Nat} {lsD : D} {ds : List Nat} (hw : 8 ≤ w ∧ w ≤ 4107) (hd : ∀ d ∈ ds, d < 256) (hl : ds.length ≤ 5) (he : each (evE (X13 aC aP1 aP2) 11 lsc (G3 s w b lsD kept a c)) (callA (asV (bodyL.getD 13 (.Pass default)))) = some [natL ds, .int w]) :
    evS (hkLaw (X13 aC aP1 aP2) 12 aC) (evE (X13 aC aP1 aP2) 12) 9 12 lsc (G3 s w b lsD kept a c) [] (st 13) = some (.nxt, G3 s w b lsD kept a c ++ [(Str.ofString "number", .int (numB (2 ^ w) ds))], []) := by
  have hn : (X13 aC aP1 aP2).N "_digits2int" [natL ds, .int w] = some (.int (numB (2 ^ w) ds)) := by
    have e := d2iN_eq (n := w) (qs := ds.map fun (k : Nat) => (k : Int)) (by omega) (fun q hq => ?_) (by rw [List.length_map]; omega)
    · rw [numB_val, List.map_map] at e
      exact orN_old (orN_old (addF_old (orN_old (orN_old (orN_old (orN_old (orN_old (orN_old (orN_old (orN_new (by kernel_rfl) e))))))))))
    · obtain ⟨k, hk, rfl⟩ := List.mem_map.mp hq
      have := hd k hk
      have h2 : (2 : Nat) ^ 8 ≤ 2 ^ w := Nat.pow_le_pow_right (by decide) hw.1
      refine ⟨Int.natCast_nonneg k, ?_⟩
      have h3 : k < 2 ^ w := by omega
      exact_mod_cast h3
  exact (evS_hk (law_asg (x := "number") rfl rfl rfl rfl (evE_call rfl rfl he hn))).trans (by kernel_rfl)
end
end Mine

end
section
open PySem PySem.W PyProof.Rows
set_option Elab.async false
set_option maxRecDepth 100000
set_option exponentiation.threshold 10000
namespace Mine

section
variable {n w : Nat} {s : Str} {b bits t N : Int} {lsD rows point near : D} {ds : List Nat}
noncomputable def duD (l : List (Int × Int)) : D := .lst (l.map dueD)
noncomputable def G6 (s : Str) (w b : Int) (ls : D) (t N : Int) (rows point near : D) (l : List (Int × Int)) (tl : Gm) : Gm := G5 s w b ls t N rows point near ++ (Str.ofString "dues", duD l) :: tl
noncomputable def tlD (p : Int × Int) (q : Int) : Gm := [(Str.ofString "divisor", .int p.1), (Str.ofString "due", .int p.2), (Str.ofString "quotient", .int q), (Str.ofString "rest", .int p.2)]
noncomputable def divB : List Stmt := ifB (st 17)
noncomputable def tlP (p p0 : Int × Int) (q : Int) : Gm := [(Str.ofString "divisor", .int p.1), (Str.ofString "due", .int p.2), (Str.ofString "quotient", .int q), (Str.ofString "rest", .int p0.2)]
theorem nm {X : Nv} {m : Nat} {sc : Kd} {Γ : Gm} {x : Str} {p : Pos} {d : D} (h0 : strEq x "__debug__" = false) (h1 : kc (look sc x) = .loc) (h : look Γ x = some d) : evE X (m + 1) sc Γ (.Name x p) = some d := by
  show nameD X sc Γ x = _
  unfold nameD
  rw [h0, h1, h]
theorem div_body {Γ Γ2 : Gm} {p : Int × Int} {q : Int} (hc : (X13 aC aP1 aP2).N "int_divmod" [.int N, .int p.1] = some (.tup [.int q, .int p.2])) (hq : q * p.1 + p.2 = N) (b1 : Builtin.Int.intBits q ≤ 2 ^ 16) (b2 : Builtin.Int.intBits p.1 ≤ 2 ^ 16)
    (e1 : each (evE (X13 aC aP1 aP2) 11 lsc Γ) (callA (asV (divB.getD 0 (.Pass default)))) = some [.int N, .int p.1]) (e2 : bindT lsc (tgt (divB.getD 0 (.Pass default))) (.tup [.int q, .int p.2]) Γ = some Γ2)
    (l1 : look Γ2 "rest" = some (.int p.2)) (l2 : look Γ2 "due" = some (.int p.2)) (l3 : look Γ2 "quotient" = some (.int q)) (l4 : look Γ2 "divisor" = some (.int p.1)) (l5 : look Γ2 "number" = some (.int N)) :
    evSs (evS (hkLaw (X13 aC aP1 aP2) 12 aC) (evE (X13 aC aP1 aP2) 12) 9 11) lsc divB Γ [] = some (.nxt, Γ2, []) := by
  have hb : divB = [divB.getD 0 (.Pass default), divB.getD 1 (.Pass default)] := by kernel_rfl
  rw [hb]
  refine (evSs_cons (evS_tup (Ω := []) (d := .tup [.int q, .int p.2]) (Γ1 := Γ2) (by kernel_rfl) rfl (evE_call rfl rfl e1 hc) e2)).trans ?_
  refine (evSs_cons (Γ1 := Γ2) (Ω1 := []) ((evS_IfH (c := false) (by kernel_rfl) (testD_of (evE_or2 (evE_cmp1 (a := .int p.2) (b := .int p.2) (c := false) rfl (nm rfl (by kernel_rfl) l1) (nm rfl (by kernel_rfl) l2) (ne_D rfl)) (evE_cmp1 (a := .int (q * p.1 + p.2)) (b := .int N) (c := false) rfl (evE_bin (a := .int (q * p.1)) (b := .int p.2) (evE_bin (a := .int q) (b := .int p.1) (nm rfl (by kernel_rfl) l3) (nm rfl (by kernel_rfl) l4) (mul_big b1 b2 (by decide))) (nm rfl (by kernel_rfl) l1) rfl) (nm rfl (by kernel_rfl) l5) (ne_D hq))) rfl)).trans rfl)).trans rfl
theorem div_step {l : List (Int × Int)} {p : Int × Int} {tl : Gm} {tl1 : Int → Gm} (h : DvOk aC aP1 aP2 N p.1 p.2) (e0 : bindT lsc (forT (st 17)) (dueD p) (G6 s w b lsD t N rows point near l tl) = some (G6 s w b lsD t N rows point near l (tl1 0)))
    (e1 : each (evE (X13 aC aP1 aP2) 11 lsc (G6 s w b lsD t N rows point near l (tl1 0))) (callA (asV (divB.getD 0 (.Pass default)))) = some [.int N, .int p.1]) (e2 : ∀ q, bindT lsc (tgt (divB.getD 0 (.Pass default))) (.tup [.int q, .int p.2]) (G6 s w b lsD t N rows point near l (tl1 0)) = some (G6 s w b lsD t N rows point near l (tlD p q))) (xs : List D) :
    ∃ q, forD lsc (forT (st 17)) (evSs (evS (hkLaw (X13 aC aP1 aP2) 12 aC) (evE (X13 aC aP1 aP2) 12) 9 11) lsc divB) (dueD p :: xs) (G6 s w b lsD t N rows point near l tl) [] = forD lsc (forT (st 17)) (evSs (evS (hkLaw (X13 aC aP1 aP2) 12 aC) (evE (X13 aC aP1 aP2) 12) 9 11) lsc divB) xs (G6 s w b lsD t N rows point near l (tlD p q)) [] := by
  obtain ⟨q, hc, hq, b1, b2⟩ := h
  exact ⟨q, forD_cons e0 (div_body hc hq b1 b2 e1 (e2 q) (by kernel_rfl) (by kernel_rfl) (by kernel_rfl) (by kernel_rfl) (by kernel_rfl))⟩
theorem div_loop {L : List (Int × Int)} : ∀ (l : List (Int × Int)), (∀ p ∈ l, DvOk aC aP1 aP2 N p.1 p.2) → ∀ p q, ∃ p' q',
    forD lsc (forT (st 17)) (evSs (evS (hkLaw (X13 aC aP1 aP2) 12 aC) (evE (X13 aC aP1 aP2) 12) 9 11) lsc divB) (l.map dueD) (G6 s w b lsD t N rows point near L (tlD p q)) [] = some (.nxt, G6 s w b lsD t N rows point near L (tlD p' q'), [])
  | [], _, p, q => ⟨p, q, rfl⟩
  | x :: l, h, p, q => by
    obtain ⟨q1, h1⟩ := div_step (s := s) (w := w) (b := b) (t := t) (lsD := lsD) (rows := rows) (point := point) (near := near) (l := L) (tl := tlD p q) (tl1 := fun _ => tlP x p q) (h x List.mem_cons_self) (by kernel_rfl) (by kernel_rfl) (fun _ => by kernel_rfl) (l.map dueD)
    obtain ⟨p2, q2, h2⟩ := div_loop l (fun y hy => h y (List.mem_cons_of_mem _ hy)) x q1
    exact ⟨p2, q2, h1.trans h2⟩
theorem div_all (hn : n = 3 ∨ n = 4) (hw : 8 ≤ w ∧ w ≤ 4107) (hl : ds.length ≤ 5) (ok : OkD n ds) (s : Str) (lsD : D) (t : Int) (rows point near : D) : ∃ p q,
    evS (hkLaw (X13 aC aP1 aP2) 12 aC) (evE (X13 aC aP1 aP2) 12) 9 12 lsc (G5 s w (2 ^ w) lsD t (numB (2 ^ w) ds) rows point near) [(Str.ofString "dues", .lst ((duesP n ds (2 ^ w)).map dueD))] (st 17) = some (.nxt, G6 s w (2 ^ w) lsD t (numB (2 ^ w) ds) rows point near (duesP n ds (2 ^ w)) (tlD p q), []) := by
  have hd := divs (C := aC) (p1 := aP1) (p2 := aP2) hn hw.1 hw.2 hl ok
  generalize numB (2 ^ w) ds = N at *
  generalize (2 : Int) ^ w = b at *
  obtain ⟨x, l, e⟩ : ∃ x l, duesP n ds b = x :: l := ⟨_, _, rfl⟩
  rw [e] at hd ⊢
  obtain ⟨q1, h1⟩ := div_step (s := s) (w := w) (b := b) (t := t) (lsD := lsD) (rows := rows) (point := point) (near := near) (l := x :: l) (tl := []) (tl1 := fun _ => (tlD x 0).take 2) (hd x List.mem_cons_self) (by kernel_rfl) (by kernel_rfl) (fun _ => by kernel_rfl) (l.map dueD)
  obtain ⟨p2, q2, h2⟩ := div_loop (s := s) (w := w) (b := b) (t := t) (lsD := lsD) (rows := rows) (point := point) (near := near) (L := x :: l) l (fun y hy => hd y (List.mem_cons_of_mem _ hy)) x q1
  exact ⟨p2, q2, Eq.trans (by kernel_rfl) (h1.trans h2)⟩
end
end Mine

end
section
open PySem PySem.W PyProof.Rows
set_option Elab.async false
set_option maxRecDepth 100000
set_option exponentiation.threshold 10000
namespace Mine

section
variable {n w : Nat} {s : Str} {bits : Int} {ls : List (Nat × Nat)} {Γ : Gm} {Ω : Om}
theorem body_run (hn : n = 3 ∨ n = 4) (hw : 8 ≤ w ∧ w ≤ 4107) (hl : (digsP n ls).length ≤ 5) (R : Run n s ls)
    (e0 : evS (hkLaw (X13 aC aP1 aP2) 12 aC) (evE (X13 aC aP1 aP2) 12) 9 12 lsc Γ Ω (st 0) = some (.nxt, G1 s w (2 ^ w) bits ((prs n).map prD), []))
    (e1 : evS (hkLaw (X13 aC aP1 aP2) 12 aC) (evE (X13 aC aP1 aP2) 12) 9 12 lsc (G1 s w (2 ^ w) bits ((prs n).map prD)) [] (st 1) = some (.nxt, G2 n ls s w (2 ^ w) bits, [])) :
    ∃ lsD t N rows point near l p q, evSs (evS (hkLaw (X13 aC aP1 aP2) 12 aC) (evE (X13 aC aP1 aP2) 12) 9 12) lsc bodyL Γ Ω = some (.nxt, G6 s w (2 ^ w) lsD t N rows point near l (tlD p q), []) := by
  have R := R w (2 ^ w) bits (numB (2 ^ w) (digsP n ls))
  simp only [Prod.mk.injEq] at R
  obtain ⟨r1, r2, r3, r4⟩ := R
  have ok := OkD.of r4
  have e13 := number_ev (w := w) hw ok.d hl r2
  obtain ⟨p, q, e17⟩ := div_all hn hw hl ok s (.lst (ls.map prD)) (sgn n) (.lst ((rowsP 4 ls (n - 1)).map natL)) (.int ((n - 1 : Nat) : Int)) (natL (nearP ls (n - 1)))
  refine ⟨.lst (ls.map prD), sgn n, numB (2 ^ w) (digsP n ls), .lst ((rowsP 4 ls (n - 1)).map natL), .int ((n - 1 : Nat) : Int), natL (nearP ls (n - 1)), duesP n (digsP n ls) (2 ^ w), p, q, ?_⟩
  have hb : bodyL = st 0 :: st 1 :: ((bodyL.drop 2).take 11 ++ (st 13 :: ((bodyL.drop 14).take 3 ++ [st 17]))) := by kernel_rfl
  rw [hb]
  refine (evSs_cons e0).trans ((evSs_cons e1).trans ((evSs_append r1).trans ((evSs_cons e13).trans ((evSs_append r3).trans ((evSs_cons e17).trans rfl)))))
end
theorem pick_map {α β : Type} (f : α → β) (xs : List α) (lo hi st : Option Int) : pick (xs.map f) lo hi st = (pick xs lo hi st).map f := by
  unfold pick
  rw [List.length_map]
  generalize sliceRange _ _ _ = l
  induction l with
  | nil => rfl
  | cons i l ih =>
    cases h : xs[i]? with
    | none => rw [List.filterMap_cons_none (by rw [List.getElem?_map, h]; rfl), List.filterMap_cons_none h, ih]
    | some x => rw [List.filterMap_cons_some (by rw [List.getElem?_map, h]; rfl), List.filterMap_cons_some h, ih]; rfl
theorem slice_lst {xs : List D} {lo hi st : Option Int} (h0 : st ≠ some 0) (h : xs.length ≤ 1000) : sliceD (.lst xs) lo hi st = some (.lst (pick xs lo hi st)) := by
  unfold sliceD
  dsimp only
  rw [if_neg]
  rintro (q | q)
  · exact h0 q
  · rw [sizeLine_eq] at q; omega
noncomputable def scrD (xs : List Int) : List D := xs.map D.int
theorem sum_D (l : List Int) : primD .sum [.lst (l.map D.int)] = some (.int l.sum) := by
  show (match intsOf (l.map D.int) with
    | some l => some (D.int l.sum)
    | none => none) = _
  rw [intsOf_map]
noncomputable def lst (i : Nat) : Stmt := (stBody dLaw).getD i (.Pass default)
noncomputable def drw (xs : List Int) (k : Nat) : Int := (pick xs (some (k : Int)) none (some 3)).sum
noncomputable def G0 (xs : List Int) : Gm := [(Str.ofString "script", .lst (scrD xs))]
noncomputable def GA (xs : List Int) : Gm := G0 xs ++ [(Str.ofString "drawn", .lst [.int (drw xs 0), .int (drw xs 1), .int (drw xs 2)])]
noncomputable def GW (xs : List Int) (w : Nat) : Gm := GA xs ++ [(Str.ofString "width", .int w)]
noncomputable def GJ (xs : List Int) (w : Nat) : Gm := GW xs w ++ [(Str.ofString "base", .int (2 ^ w)), (Str.ofString "judges", jud)]
section
variable {xs : List Int}
theorem drawn_ev (hl : xs.length ≤ 1000) : evE (X13 aC aP1 aP2) 12 lsc (G0 xs) (asV (lst 0)) = some (.lst [.int (drw xs 0), .int (drw xs 1), .int (drw xs 2)]) := by
  refine evE_comp (d := .rng 0 3) (xs := (List.range 3).map fun (i : Nat) => D.int i) rfl rfl (by kernel_rfl) (by kernel_rfl) (by kernel_rfl) ((compL_all (g := fun i => D.int (drw xs i)) fun i hi => ?_).trans rfl) rfl
  refine ⟨put (freeG (G0 xs) (compS (asV (lst 0)))) "k" (.int i), by kernel_rfl, rfl, compI_nil ?_⟩
  refine evE_prim rfl rfl (each_cons (d := .lst ((pick xs (some (i : Int)) none (some 3)).map D.int)) (ds := []) rfl (evE_slice (a := .lst (scrD xs)) (l := some (i : Int)) (h := none) (q := some 3) (by kernel_rfl) (by kernel_rfl) rfl (by kernel_rfl) ((slice_lst (by decide) (by unfold scrD; rw [List.length_map]; omega)).trans (by unfold scrD; rw [pick_map]))) rfl) (by kernel_rfl) (pr := (.sum, .builtin "sum")) (by kernel_rfl) (sum_D _)
theorem width_ev : ∃ w : Nat, (8 ≤ w ∧ w ≤ 4107) ∧ evE (X13 aC aP1 aP2) 12 lsc (GA xs) (asV (lst 1)) = some (.int w) := by
  have h0 := Int.fmod_nonneg_of_pos (56 + drw xs 2) (b := 4100) (by decide)
  have h1 := Int.fmod_lt_of_pos (56 + drw xs 2) (b := 4100) (by decide)
  obtain ⟨n, hn⟩ := Int.eq_ofNat_of_zero_le h0
  rw [hn] at h1
  refine ⟨8 + n, ⟨Nat.le_add_right _ _, Nat.add_le_add_left (Nat.le_of_lt_succ (Int.ofNat_lt.mp h1)) 8⟩, ?_⟩
  rw [show ((8 + n : Nat) : Int) = 8 + (56 + drw xs 2).fmod 4100 by rw [hn]; rfl]
  exact evE_bin (a := .int 8) (b := .int ((56 + drw xs 2).fmod 4100)) (by kernel_rfl) (evE_bin (a := .int (56 + drw xs 2)) (b := .int 4100) (by kernel_rfl) (by kernel_rfl) (mod_D (by decide))) rfl
theorem base_ev {w : Nat} (hw : w ≤ 4107) : evE (X13 aC aP1 aP2) 12 lsc (GW xs w) (asV (lst 2)) = some (.int (2 ^ w)) := by
  refine evE_bin (a := .int 2) (b := .int w) (by kernel_rfl) (by kernel_rfl) ?_
  refine (if_pos (c := 0 ≤ (w : Int) ∧ (Builtin.Int.intBits 2 : Int) * w ≤ 2 ^ 27) ⟨Int.natCast_nonneg w, ?_⟩).trans rfl
  rw [show Builtin.Int.intBits 2 = 2 by decide]
  omega
theorem digs_len3 (ls : List (Nat × Nat)) : (digsP 3 ls).length ≤ 5 := by unfold digsP; exact Nat.le_of_ble_eq_true rfl
theorem digs_len4 (ls : List (Nat × Nat)) : (digsP 4 ls).length ≤ 5 := by unfold digsP; exact Nat.le_of_ble_eq_true rfl
noncomputable abbrev rc12 : Sv := evS (hkLaw (X13 aC aP1 aP2) 12 aC) (evE (X13 aC aP1 aP2) 12) 9 12
noncomputable abbrev rc13 : Sv := evS (hkLaw (X13 aC aP1 aP2) 12 aC) (evE (X13 aC aP1 aP2) 12) 9 13
theorem for2 {t : Expr} {body : Gm → Om → Option Rs} {x y : D} {Γ Γ1 Γ2 Γ3 Γ4 : Gm} (h1 : bindT lsc t x Γ = some Γ1) (b1 : body Γ1 [] = some (.nxt, Γ2, [])) (h2 : bindT lsc t y Γ2 = some Γ3) (b2 : body Γ3 [] = some (.nxt, Γ4, [])) : forD lsc t body [x, y] Γ [] = some (.nxt, Γ4, []) :=
  (forD_cons h1 b1).trans ((forD_cons h2 b2).trans rfl)
theorem law_for {w : Nat} (hw : 8 ≤ w ∧ w ≤ 4107) : ∃ Γ, forD lsc (forT (lst 5)) (evSs rc12 lsc bodyL) [.tup [.str "abc", .int (5 + drw xs 0)], .tup [.str "abcd", .int (45 + drw xs 1)]] (GJ xs w) [] = some (.nxt, Γ, []) := by
  obtain ⟨m3, hm3, l3⟩ := lines3 (5 + drw xs 0)
  obtain ⟨m4, hm4, l4⟩ := lines4 (45 + drw xs 1)
  obtain ⟨d1, t1, N1, r1, p1, n1, l1, x1, q1, b1⟩ := body_run (Γ := GJ xs w ++ [(Str.ofString "letters", .str "abc"), (Str.ofString "bits", .int (5 + drw xs 0))]) (Ω := []) (.inl rfl) hw (digs_len3 _) (runs3 m3 hm3) (by kernel_rfl) (l3 _ _ _)
  obtain ⟨d2, t2, N2, r2, p2, n2, l2, x2, q2, b2⟩ := body_run (Γ := put (put (G6 "abc" w (2 ^ w) d1 t1 N1 r1 p1 n1 l1 (tlD x1 q1)) "letters" (.str "abcd")) "bits" (.int (45 + drw xs 1))) (Ω := []) (.inr rfl) hw (digs_len4 _) (runs4 m4 hm4) (by kernel_rfl) (l4 _ _ _)
  exact ⟨_, for2 (by kernel_rfl) b1 (by kernel_rfl) b2⟩
end
end Mine

end
section
open PySem PySem.W PyProof.Rows
set_option Elab.async false
set_option maxRecDepth 100000
set_option exponentiation.threshold 10000
namespace Mine

section
variable {xs : List Int} {w : Nat}
theorem law_a (hl : xs.length ≤ 1000) : rc13 lsc (G0 xs) [] (lst 0) = some (.nxt, GA xs, []) := (evS_hk (law_asg (x := "drawn") rfl rfl rfl rfl (drawn_ev hl))).trans (by kernel_rfl)
theorem law_b (e1 : evE (X13 aC aP1 aP2) 12 lsc (GA xs) (asV (lst 1)) = some (.int w)) : rc13 lsc (GA xs) [] (lst 1) = some (.nxt, GW xs w, []) := (evS_hk (law_asg (x := "width") rfl rfl rfl rfl e1)).trans (by kernel_rfl)
theorem law_c (hw : w ≤ 4107) : rc13 lsc (GW xs w) [] (lst 2) = some (.nxt, GW xs w ++ [(Str.ofString "base", .int (2 ^ w))], []) := (evS_hk (law_asg (x := "base") rfl rfl rfl rfl (base_ev hw))).trans (by kernel_rfl)
theorem law_d : evSs rc13 lsc [lst 3, lst 4] (GW xs w ++ [(Str.ofString "base", .int (2 ^ w))]) [] = some (.nxt, GJ xs w, []) := by kernel_rfl
theorem law_e (hw : 8 ≤ w ∧ w ≤ 4107) : ∃ Γ, rc13 lsc (GJ xs w) [] (lst 5) = some (.nxt, Γ, []) := by
  have hf : rc13 lsc (GJ xs w) [] (lst 5) = forD lsc (forT (lst 5)) (evSs rc12 lsc bodyL) [.tup [.str "abc", .int (5 + drw xs 0)], .tup [.str "abcd", .int (45 + drw xs 1)]] (GJ xs w) [] := by kernel_rfl
  obtain ⟨Γ, h⟩ := law_for (xs := xs) hw
  exact ⟨Γ, hf.trans h⟩
theorem law_run (hl : xs.length ≤ 1000) : runF rc13 (fnOf dLaw) [.lst (scrD xs)] = some (.bool true) := by
  obtain ⟨w, hw, e1⟩ := width_ev (xs := xs)
  obtain ⟨Γ, e5⟩ := law_e (xs := xs) hw
  have e6 : ∀ Γ : Gm, rc13 lsc Γ [] (lst 6) = some (.ret (.bool true), Γ, []) := fun Γ => by kernel_rfl
  have hb : stBody dLaw = lst 0 :: lst 1 :: lst 2 :: ([lst 3, lst 4] ++ [lst 5, lst 6]) := by kernel_rfl
  have hh : evSs rc13 lsc (stBody dLaw) (G0 xs) [] = some (.ret (.bool true), Γ, []) := by
    rw [hb]
    exact (evSs_cons (law_a hl)).trans ((evSs_cons (law_b e1)).trans ((evSs_cons (law_c hw.2)).trans ((evSs_append law_d).trans ((evSs_cons e5).trans (evSs_ret (e6 Γ))))))
  generalize rc13 = rec at *
  exact runF_ret (Γ := Γ) (Ω := []) rfl hh
end
end Mine

end
section
open PySem PySem.W PyProof.Rows
set_option Elab.async false
set_option maxRecDepth 100000
namespace Mine

noncomputable def dSet : Stmt := defOf "setdefault" hB
noncomputable def sSc : Kd := (stScope dSet).names
noncomputable def sG (a n v : D) : Gm := bindPs [] ["self", "name", "value"] [a, n, v]
noncomputable def sAe : Expr := argE 0 (asV ((ifB ((stBody dSet).getD 1 (.Pass default))).getD 0 (.Pass default)))
section
variable {B : Bs} {K : Frag} {L : Nat} {C p1 p2 : Nat} {ps : List (Str × Str)} {n v : Str}
theorem get_M (h : okS n v = true) (hl : ∀ p ∈ ps, low p.1 = false) : (X2 C p1 p2).M "get" (.hdr C (ps.map pD)) [.str n] = some (oD (getO ps n)) := by
  have hg : getM C "get" (.hdr C (ps.map pD)) [.str n] = some (oD (getO ps n)) := by
    show ((hdrOf C (.hdr C (ps.map pD))).bind fun xs => (sole strOf1 [.str n]).bind fun name => (pairsOf xs).bind fun ps => tst (Safe (Txt.lower name) && (!low name && ps.all (fun p => !low p.1))) (some (oD (getO ps name)))) = _
    rw [hdrOf_self]
    show ((pairsOf (ps.map pD)).bind fun ps => tst (Safe (Txt.lower n) && (!low n && ps.all (fun p => !low p.1))) (some (oD (getO ps n)))) = _
    rw [pairsOf_map]
    have hs : (Safe (Txt.lower n) && (!low n && ps.all (fun p => !low p.1))) = true := by
      rw [okS_low h, List.all_eq_true.mpr fun p hp => by rw [hl p hp]; rfl]
      unfold okS at h
      simp only [Bool.and_eq_true, lowF_eq] at h
      rw [h.2.2.1]; rfl
    show tst (Safe (Txt.lower n) && (!low n && ps.all (fun p => !low p.1))) _ = _
    rw [hs]; rfl
  have e : (X2 C p1 p2).M "get" (.hdr C (ps.map pD)) [.str n] = getM C "get" (.hdr C (ps.map pD)) [.str n] := by kernel_rfl
  exact e.trans hg
theorem set_ae {a : Nat} (h : okS n v = true) : evE (X2 C p1 p2) 12 sSc (put (put (sG (.ref a) (.str n) (.str v)) "result" (oD none)) "self" (.hdr C (ps.map pD))) sAe = some (pD (n, v)) := by
  unfold okS at h
  simp only [Bool.and_eq_true] at h
  refine evE_tup (ds := [.str n, .str v]) (each_cons rfl ?_ (each_cons rfl ?_ rfl)) rfl
  · exact evE_methK rfl rfl rfl rfl (d := .hdr C (ps.map pD)) (ds := [.str n]) (kd := .bool true) (by kernel_rfl) (by kernel_rfl) (by kernel_rfl) (convK_ok (C := C) (p1 := p1) (p2 := p2) (xs := ps.map pD) (b := true) h.1)
  · exact evE_methK rfl rfl rfl rfl (d := .hdr C (ps.map pD)) (ds := [.str v]) (kd := .bool false) (by kernel_rfl) (by kernel_rfl) (by kernel_rfl) (convK_ok (C := C) (p1 := p1) (p2 := p2) (xs := ps.map pD) (b := false) h.2.1)
theorem set_e1 {a : Nat} (h : okS n v = true) (hl : ∀ p ∈ ps, low p.1 = false) : evE (X2 C p1 p2) 12 sSc (put (sG (.ref a) (.str n) (.str v)) "self" (.hdr C (ps.map pD))) (asV ((stBody dSet).getD 0 (.Pass default))) = some (oD (getO ps n)) :=
  evE_methX rfl rfl rfl (by kernel_rfl) (d := .hdr C (ps.map pD)) (ds := [.str n]) (by kernel_rfl) (by kernel_rfl) (get_M h hl)
theorem set_e2 {a : Nat} : ∀ o : Option Str, evE (X2 C p1 p2) 12 sSc (put (sG (.ref a) (.str n) (.str v)) "result" (oD o)) (asV ((stBody dSet).getD 1 (.Pass default))) = some (.bool o.isNone)
  | none => by kernel_rfl
  | some _ => by kernel_rfl
noncomputable def elB (s : Stmt) : List Stmt := (stP s).2.2.2.1
noncomputable def s4 : Stmt := (ifB ((stBody dSet).getD 1 (.Pass default))).getD 1 (.Pass default)
noncomputable def s5 : Stmt := (elB ((stBody dSet).getD 1 (.Pass default))).getD 0 (.Pass default)
theorem set_e4 {a : Nat} (o : Option Str) : ∃ Γ4, evSs (evS noHk (evE (X2 C p1 p2) 12) 9 (10 + 2)) sSc [s4] (put (sG (.ref a) (.str n) (.str v)) "result" (oD o)) [] = some (.ret (.str v), Γ4, []) := ⟨put (sG (.ref a) (.str n) (.str v)) "result" (oD o), by kernel_rfl⟩
theorem set_e5 {a : Nat} (o : Option Str) : ∃ Γ4, evSs (evS noHk (evE (X2 C p1 p2) 12) 9 (10 + 2)) sSc [s5] (put (sG (.ref a) (.str n) (.str v)) "result" (oD o)) [] = some (.ret (oD o), Γ4, []) := ⟨put (sG (.ref a) (.str n) (.str v)) "result" (oD o), by kernel_rfl⟩
theorem setC_ok (nv : NvOk B L (X2 C p1 p2)) (kb : KB B K) (hk : HdK K C) {fd : FuncData} (ca : ClsAt B K C "setdefault" dSet fd) (hbind : ∀ u v w, bindArgs fd ⟨[u, v, w], []⟩ = pure [(Str.ofString "self", u), (Str.ofString "name", v), (Str.ofString "value", w)]) : SetC B (L + 1) C (methA K C "setdefault") := by
  intro ps n v k ho ht A G s a dx l nvv vvv E Q rm st hT hd r1 r2 hQ
  refine setdef_ok (q := 12) (kk := 9) (mm := 10) (sn := "self") (nn := "name") (vn := "value") (rn := "result") (te := asV ((stBody dSet).getD 1 (.Pass default))) (ae := sAe) (ce := asV ((stBody dSet).getD 0 (.Pass default))) (s4 := s4) (s5 := s5) (ps := ps) (n := n) (v := v) (o := getO ps n)
    nv kb hk ca.fc rfl rfl (by decide) (by decide) hbind rfl rfl rfl rfl rfl (fun d => by kernel_rfl) (fun a => by kernel_rfl) (fun a => set_e1 ho ht.lo) (fun a => set_e2 _) (fun a he => ?_) (fun a => by kernel_rfl) (fun a => set_e4 _) (fun a => set_e5 _) rm st hT hd (by have := ht.le; omega) r1 r2 hQ
  rw [he]; exact set_ae ho
theorem setK_ok (nv : NvOk B L (X2 C p1 p2)) (kb : KB B K) (hk : HdK K C) {fd : FuncData} (ca : ClsAt B K C "setdefault" dSet fd) (hbind : ∀ u v w, bindArgs fd ⟨[u, v, w], []⟩ = pure [(Str.ofString "self", u), (Str.ofString "name", v), (Str.ofString "value", w)]) : SetK B (L + 1) K C (methA K C "setdefault") "setdefault" :=
  ⟨kb, hk, setC_ok nv kb hk ca hbind, ca.fc.keep0, (methOk_of ca.ok).1, (methOk_of ca.ok).2, by decide⟩
end
end Mine

end
section
open PySem PySem.W PyProof.Rows
set_option Elab.async false
set_option maxRecDepth 100000
set_option exponentiation.threshold 10000
namespace Mine
open PySem.Sre PySem.Builtin.Re

noncomputable def offT (P1 P2 : Nat) (K : Frag) : Frag := K.filter fun p => !(Nat.beq p.1 P1 || Nat.beq p.1 P2)
theorem look_filter {f : Nat → Bool} {a : Nat} {o : Obj} (K : Frag) (h : (K.filter fun p => f p.1).lookup a = some o) : K.lookup a = some o ∧ f a = true := by
  induction K with
  | nil => exact nsd h
  | cons p K ih =>
    rw [List.lookup_cons]
    cases e : a == p.1 with
    | false =>
      cases hp : f p.1 with
      | false => exact ih (List.filter_cons_of_neg (p := fun p : Nat × Obj => f p.1) (a := p) (by rw [hp]; exact Bool.false_ne_true) ▸ h)
      | true =>
        rw [List.filter_cons_of_pos (p := fun p : Nat × Obj => f p.1) hp, List.lookup_cons, e] at h
        exact ih h
    | true =>
      have e2 := beq_iff_eq.mp e
      cases hp : f p.1 with
      | false =>
        have := (ih (List.filter_cons_of_neg (p := fun p : Nat × Obj => f p.1) (a := p) (by rw [hp]; exact Bool.false_ne_true) ▸ h)).2
        rw [e2, hp] at this; exact nft this
      | true =>
        rw [List.filter_cons_of_pos (p := fun p : Nat × Obj => f p.1) hp, List.lookup_cons, e] at h
        exact ⟨h, e2 ▸ hp⟩
theorem offT_in {P1 P2 : Nat} {K : Frag} {a : Addr} {o : Obj} (h : (offT P1 P2 K).lookup a = some o) : K.lookup a = some o ∧ a ≠ P1 ∧ a ≠ P2 := by
  obtain ⟨h1, h2⟩ := look_filter (f := fun x => !(Nat.beq x P1 || Nat.beq x P2)) K h
  refine ⟨h1, fun q => ?_, fun q => ?_⟩
  · rw [q, Nat.beq_refl] at h2; exact nft h2
  · rw [q, Nat.beq_refl, Bool.or_true] at h2; exact nft h2
noncomputable def noneIn (K : Frag) (a : Addr) (x : Str) : Bool := match nsIn K a x with
  | some none => true
  | _ => false
theorem noneIn_of {K : Frag} {a : Addr} {x : Str} (h : noneIn K a x = true) : nsIn K a x = some none := by
  unfold noneIn at h
  split at h
  · assumption
  · first | exact nsd h | exact nft h | exact ntf h | cases h
noncomputable def tokK (v : Value) : Tok := match v with
  | .int _ t => t
  | _ => 0
noncomputable def seqK (o : Obj) : Array Value := match o.data with
  | .seq i _ => i
  | _ => #[]
noncomputable def seqN (o : Obj) : Nat := match o.data with
  | .seq _ n => n
  | _ => 0
structure PatK (K : Frag) (p : Addr) (code : Array Nat) : Prop where
  h1 : K.lookup p = some (objK K p)
  h2 : (objK K p).cls = .type "re.Pattern"
  h3 : (objK K p).dict = none
  h4 : (objK K p).data = .fields (fldK (objK K p))
  h5 : (fldK (objK K p)).getD 6 .none = rawInt 0
  h6 : (fldK (objK K p)).getD 5 .none = .ref (refK ((fldK (objK K p)).getD 5 .none))
  h7 : (fldK (objK K p)).getD 2 .none = rawInt 0
  h8 : K.lookup (refK ((fldK (objK K p)).getD 5 .none)) = some (objK K (refK ((fldK (objK K p)).getD 5 .none)))
  h9 : (objK K (refK ((fldK (objK K p)).getD 5 .none))).data = .seq (seqK (objK K (refK ((fldK (objK K p)).getD 5 .none)))) (seqN (objK K (refK ((fldK (objK K p)).getD 5 .none))))
  h10 : ((seqK (objK K (refK ((fldK (objK K p)).getD 5 .none)))).map reRawOf).map (·.toNat) = code
theorem PatK.at {K : Frag} {h : Heap} {p : Addr} {code : Array Nat} (X : K.In h) (P : PatK K p code) : PatAt h p code :=
  ⟨_, _, _, X _ _ P.h1, P.h2, P.h3, P.h4, P.h5, P.h6, P.h7, _, _, _, X _ _ P.h8, P.h9, P.h10⟩
structure FnK (K : Frag) (x : Str) (s : Stmt) : Prop where
  mg : globOk K x
  gd : FdGood K (globA K x)
  sc : (fdOf K (globA K x)).scope = stScope s
  bd : (fdOf K (globA K x)).body = .stmts (stBody s)
theorem FnK.gf {B : Bs} {K : Frag} {x : Str} {s : Stmt} (kb : KB B K) (f : FnK K x s) (ok : fnOk (fnOf s) = true) (hb : ∀ vs : List Value, vs.length = (fnOf s).ps.length → bindArgs (fdOf K (globA K x)) ⟨vs, []⟩ = pure ((fnOf s).ps.zip vs)) : GfAt B x (fnOf s) :=
  ⟨_, globOk_mg kb f.mg, FnAt.of kb f.gd f.sc f.bd ok hb⟩
structure MtK (K : Frag) (C : Addr) (x : Str) (s : Stmt) : Prop where
  mt : methOk K C x
  gd : FdGood K (methA K C x)
  sc : (fdOf K (methA K C x)).scope = stScope s
  bd : (fdOf K (methA K C x)).body = .stmts (stBody s)
theorem MtK.at {B : Bs} {K : Frag} {C : Addr} {x : Str} {s : Stmt} (kb : KB B K) (m : MtK K C x s) : ClsAt B K C x s (fdOf K (methA K C x)) := ⟨m.mt, FcAt.of kb m.gd m.sc m.bd⟩
structure NsK (K : Frag) (x : Str) (s : Stmt) (c P : Addr) : Prop where
  fn : FnK K x s
  cd : (fdOf K (globA K x)).code = .ref c
  ch : codeHdIn K c P = true
  q : (fdOf K (globA K x)).qualname = x
theorem NsK.at {B : Bs} {K : Frag} {x qn : Str} {s i : Stmt} {c P : Addr} (kb : KB B K) (n : NsK K x s c P) (hp : P ∈ B.tb) (hdn : B.dn P = (stPos i, qn)) (bm : B.h0.BuiltinsAt B.mg P) : NestAt B x s i qn (globA K x) c P (fdOf K (globA K x)) :=
  ⟨globOk_mg kb n.fn.mg, FcAt.of kb n.fn.gd n.fn.sc n.fn.bd, n.cd, codeHd_of_K kb.in0 n.ch, hp, hdn, n.q, bm⟩

theorem look_mem {α : Type} {x : Str} {a : α} (l : List (Str × α)) (h : look l x = some a) : (x, a) ∈ l := by
  induction l with
  | nil => exact nsd h
  | cons p r ih =>
    have h : (match strEq x p.1 with | true => some p.2 | false => look r x) = some a := h
    cases e : strEq x p.1 with
    | true =>
      rw [e] at h
      rw [strEq_iff.mp e, ← Option.some.inj h]; exact List.mem_cons_self
    | false => rw [e] at h; exact List.mem_cons_of_mem _ (ih h)
theorem fd_eta {fd : FuncData} {p : Arguments} {d : Value} (hp : fd.params = p) (hd : fd.defaults = d) : fd = { fd with params := p, defaults := d } := hp ▸ hd ▸ rfl
theorem bind_init {fd : FuncData} {s : Shared} {T : Addr} {o : Obj} {u v : Value} {n : Nat} (hp : fd.params = stArgs dInit) (hd : fd.defaults = .ref T) (ho : s.heap.get? T = some o) (hs : o.data = .seq #[.none] n) : BindsTo s fd ⟨[u, v], []⟩ [(Str.ofString "self", u), (Str.ofString "headers", v)] :=
  fd_eta hp hd ▸ BindsTo.of_defaults rfl ho hs rfl (by kernel_rfl)
theorem bind_get {fd : FuncData} {s : Shared} {T : Addr} {o : Obj} {u v : Value} {n : Nat} (hp : fd.params = stArgs dGet) (hd : fd.defaults = .ref T) (ho : s.heap.get? T = some o) (hs : o.data = .seq #[.none] n) : BindsTo s fd ⟨[u, v], []⟩ [(Str.ofString "self", u), (Str.ofString "name", v), (Str.ofString "default", .none)] :=
  fd_eta hp hd ▸ BindsTo.of_defaults rfl ho hs rfl (by kernel_rfl)
structure DefK (K : Frag) (fd : FuncData) (st : Stmt) : Prop where
  p : fd.params = stArgs st
  d : fd.defaults = .ref (refK fd.defaults)
  o : K.lookup (refK fd.defaults) = some (objK K (refK fd.defaults))
  s : (objK K (refK fd.defaults)).data = .seq #[.none] (seqN (objK K (refK fd.defaults)))
inductive Hold (K : Frag) (C p1 p2 c1 P1 c2 P2 : Addr) : Prop
  | mk (hk : HdK K C)
    (cC : nsIn K mainGlobals "Headers" = some (some (.ref C)))
    (pn : PatK K p1 codeN)
    (pv : PatK K p2 codeV)
    (kn : nsIn K mainGlobals "_name_disallowed_re" = some (some (.ref p1)))
    (kv : nsIn K mainGlobals "_value_disallowed_re" = some (some (.ref p2)))
    (kl : nsIn K mainGlobals "_DIV_LIMIT" = some (some (.int 4000 (tokK (((nsIn K mainGlobals "_DIV_LIMIT").getD none).getD .none)))))
    (pr : (prTab.all fun q => noneIn K mainGlobals q.1) = true)
    (ps : noneIn K mainGlobals "str" = true)
    (pl : noneIn K mainGlobals "list" = true)
    (prv : noneIn K mainGlobals "reversed" = true)
    (mCv : MtK K C "_convert_string_type" dConv)
    (mIn : MtK K C "__init__" dInit)
    (mGt : MtK K C "get" dGet)
    (mSd : MtK K C "setdefault" dSet)
    (mKs : MtK K C "keys" dKeys)
    (bCv : ∀ o v b, bindArgs (fdOf K (methA K C "_convert_string_type")) ⟨[o, v], [(Str.ofString "name", b)]⟩ = pure [(Str.ofString "self", o), (Str.ofString "value", v), (Str.ofString "name", b)])
    (bIn : DefK K (fdOf K (methA K C "__init__")) dInit)
    (bGt : DefK K (fdOf K (methA K C "get")) dGet)
    (bSd : ∀ o v w, bindArgs (fdOf K (methA K C "setdefault")) ⟨[o, v, w], []⟩ = pure [(Str.ofString "self", o), (Str.ofString "name", v), (Str.ofString "value", w)])
    (bKs : ∀ o, bindArgs (fdOf K (methA K C "keys")) ⟨[o], []⟩ = pure [(Str.ofString "self", o)])
    (nI : NsK K "_int2digits" dI2d c1 P1)
    (nD : NsK K "_digits2int" dD2i c2 P2)
    (bI : ∀ v w, bindArgs (fdOf K (globA K "_int2digits")) ⟨[v, w], []⟩ = pure [(Str.ofString "a", v), (Str.ofString "n", w)])
    (bD : ∀ v w, bindArgs (fdOf K (globA K "_digits2int")) ⟨[v, w], []⟩ = pure [(Str.ofString "digits", v), (Str.ofString "n", w)])
    (f1 : FnK K "_div2n1n" d2n1)
    (b1 : ∀ x y z, bindArgs (fdOf K (globA K "_div2n1n")) ⟨[x, y, z], []⟩ = pure [(Str.ofString "a", x), (Str.ofString "b", y), (Str.ofString "n", z)])
    (f0 : FnK K "_div3n2n" d3n)
    (b0 : ∀ u v x y z q, bindArgs (fdOf K (globA K "_div3n2n")) ⟨[u, v, x, y, z, q], []⟩ = pure [(Str.ofString "a12", u), (Str.ofString "a3", v), (Str.ofString "b", x), (Str.ofString "b1", y), (Str.ofString "b2", z), (Str.ofString "n", q)])
    (f2 : FnK K "_divmod_pos" dDmp)
    (b2 : ∀ x y, bindArgs (fdOf K (globA K "_divmod_pos")) ⟨[x, y], []⟩ = pure [(Str.ofString "a", x), (Str.ofString "b", y)])
    (f3 : FnK K "int_divmod" dIdm)
    (b3 : ∀ x y, bindArgs (fdOf K (globA K "int_divmod")) ⟨[x, y], []⟩ = pure [(Str.ofString "a", x), (Str.ofString "b", y)])
    (f4 : FnK K "rgb_to_hsv" dRgb)
    (b4 : ∀ x y z, bindArgs (fdOf K (globA K "rgb_to_hsv")) ⟨[x, y, z], []⟩ = pure [(Str.ofString "r", x), (Str.ofString "g", y), (Str.ofString "b", z)])
    (f5 : FnK K "hsv_to_rgb" dHsv)
    (b5 : ∀ x y z, bindArgs (fdOf K (globA K "hsv_to_rgb")) ⟨[x, y, z], []⟩ = pure [(Str.ofString "h", x), (Str.ofString "s", y), (Str.ofString "v", z)])
    (f6 : FnK K "_law_orders" dOrd)
    (b6 : ∀ x, bindArgs (fdOf K (globA K "_law_orders")) ⟨[x], []⟩ = pure [(Str.ofString "letters", x)])
    (f7 : FnK K "_law_alike" dAlk)
    (b7 : ∀ x, bindArgs (fdOf K (globA K "_law_alike")) ⟨[x], []⟩ = pure [(Str.ofString "k", x)])
    (f8 : FnK K "law" dLaw)
    (b8 : ∀ x, bindArgs (fdOf K (globA K "law")) ⟨[x], []⟩ = pure [(Str.ofString "script", x)]) : Hold K C p1 p2 c1 P1 c2 P2
theorem boot_all : prTab.map (fun q => bootBuiltins q.1) = prTab.map fun q => some q.2.1.val := by kernel_rfl
theorem boot_nm : (prTab.all fun q => !strEq q.1 "__name__") = true := by kernel_rfl
theorem boot_pr (q : Str × Pr × Value) (hq : q ∈ prTab) : bootBuiltins q.1 = some q.2.1.val ∧ q.1 ≠ "__name__" :=
  ⟨List.map_inj_left.mp boot_all q hq, fun e => by have := List.all_eq_true.mp boot_nm q hq; rw [e] at this; exact nft this⟩
variable {B : Bs} {K : Frag} {C p1 p2 c1 P1 c2 P2 : Addr}
structure All (B : Bs) (K : Frag) (C p1 p2 : Addr) : Prop where
  nv : NvOk B 90 (X13 C p1 p2)
  nw : NewC B 88 C
  sd : SetK B 90 K C (methA K C "setdefault") "setdefault"
  cC : B.mg "Headers" = some (.ref C)
  lw : GfAt B "law" (fnOf dLaw)
theorem bind6 {fd : FuncData} {a b c d e f : Str} (h : ∀ u v x y z q, bindArgs fd ⟨[u, v, x, y, z, q], []⟩ = pure [(a, u), (b, v), (c, x), (d, y), (e, z), (f, q)]) (vs : List Value) (hl : vs.length = 6) : bindArgs fd ⟨vs, []⟩ = pure ([a, b, c, d, e, f].zip vs) := by
  obtain ⟨u, r1, rfl, h1⟩ := len_succ hl
  obtain ⟨v, r2, rfl, h2⟩ := len_succ h1
  obtain ⟨x, r3, rfl, h3⟩ := len_succ h2
  obtain ⟨y, r4, rfl, h4⟩ := len_succ h3
  obtain ⟨z, r5, rfl, h5⟩ := len_succ h4
  obtain ⟨q, r6, rfl, h6⟩ := len_succ h5
  obtain rfl := List.length_eq_zero_iff.mp h6
  exact h u v x y z q
theorem nv_all (kb : KB B K) (H : Hold K C p1 p2 c1 P1 c2 P2) (hb : ∀ x : Str, x ≠ "__name__" → B.mb x = bootBuiltins x) (hP1 : P1 ∈ B.tb) (hP2 : P2 ∈ B.tb) (hd1 : B.dn P1 = (stPos dI2i, Str.ofString "_int2digits.<locals>.inner")) (hd2 : B.dn P2 = (stPos dD2n, Str.ofString "_digits2int.<locals>.inner"))
    (bm1 : B.h0.BuiltinsAt B.mg P1) (bm2 : B.h0.BuiltinsAt B.mg P2) : All B K C p1 p2 ∧ codeHdIn K c1 P1 = true ∧ codeHdIn K c2 P2 = true := by
  obtain ⟨Hhk, HcC, Hpn, Hpv, Hkn, Hkv, Hkl, Hpr, Hps, Hpl, Hprv, HmCv, HmIn, HmGt, HmSd, HmKs, HbCv, HbIn, HbGt, HbSd, HbKs, HnI, HnD, HbI, HbD, Hf1, Hb1, Hf0, Hb0, Hf2, Hb2, Hf3, Hb3, Hf4, Hb4, Hf5, Hb5, Hf6, Hb6, Hf7, Hb7, Hf8, Hb8⟩ := H
  have mgn : ∀ {x : Str}, noneIn K mainGlobals x = true → B.mg x = none := fun h => mg_none_of kb.in0 B.hg (noneIn_of h)
  have n0 : Nat0 B K C p1 p2 := by
    refine ⟨kb, Hhk, Hpn.at kb.in0, Hpv.at kb.in0, ?_, mg_of kb.in0 B.hg Hkn, mg_of kb.in0 B.hg Hkv, fun x p h => ?_, ⟨mgn Hps, ?_⟩, ⟨mgn Hpl, ?_⟩⟩
    · exact ⟨_, mg_of kb.in0 B.hg Hkl⟩
    · have hm := look_mem _ h
      have h2 := boot_pr _ hm
      exact ⟨mgn (List.all_eq_true.mp Hpr _ hm), (hb x h2.2).trans h2.1⟩
    · exact (hb _ (by decide)).trans (by kernel_rfl)
    · exact (hb _ (by decide)).trans (by kernel_rfl)
  have v0 : NvOk B 4 (nat0 C p1 p2) := nat0_ok n0
  have v1 : NvOk B 1 (X1 C p1 p2) := X1_ok n0 (HmCv.at kb) HbCv
  have v2 : NvOk B 2 (X2 C p1 p2) := X2_ok v1 kb Hhk (HmGt.at kb) fun u v s X => bind_get HbGt.p HbGt.d (X _ _ HbGt.o) HbGt.s
  have nw : NewC B 88 C := new_ok (v2.more (by omega)) kb Hhk (HmIn.at kb) fun u v s X => bind_init HbIn.p HbIn.d (X _ _ HbIn.o) HbIn.s
  have sd : SetK B 90 K C (methA K C "setdefault") "setdefault" := setK_ok (L := 89) (v2.more (by omega)) kb Hhk (HmSd.at kb) HbSd
  have v4 : NvOk B 74 (X4 C p1 p2) := X4_ok v0 (v2.more (by omega)) (HnI.at kb hP1 hd1 bm1) HbI
  have v5 : NvOk B 74 (X5 C p1 p2) := X5_ok v0 v4 (HnD.at kb hP2 hd2 bm2) HbD
  have g2 := Hf1.gf kb (by kernel_rfl) (bind3 Hb1)
  have gi := Hf3.gf kb (by kernel_rfl) (bind2 Hb3)
  have v6 := X6_ok v5 g2
  have v6b := X6b_ok v6 (Hf0.gf kb (by kernel_rfl) (bind6 Hb0))
  have v6c := X6c_ok v6b g2
  have v7 := X7_ok v6c (mgn Hprv) ((hb _ (by decide)).trans (by kernel_rfl)) (Hf2.gf kb (by kernel_rfl) (bind2 Hb2))
  have v8 := X8_ok v7 gi
  have v9 := X9_ok v8 gi
  have v9c := X9c_ok v9 gi
  have v10 := X10_ok v9c (Hf4.gf kb (by kernel_rfl) (bind3 Hb4)) (Hf5.gf kb (by kernel_rfl) (bind3 Hb5))
  have v11 := X11_ok v10 (Hf6.gf kb (by kernel_rfl) (bind1 Hb6))
  have v12 := X12_ok v11 kb Hhk (HmKs.at kb) HbKs
  have v13 := X13_ok v12 (Hf7.gf kb (by kernel_rfl) (bind1 Hb7))
  exact ⟨⟨v13.more (by omega), nw, sd, mg_of kb.in0 B.hg HcC, Hf8.gf kb (by kernel_rfl) (bind1 Hb8)⟩, HnI.ch, HnD.ch⟩
end Mine

end
section
open PySem PySem.W PyProof.Rows
set_option Elab.async false
set_option maxRecDepth 100000
set_option exponentiation.threshold 10000
namespace Mine

theorem rd_ints {G : Gh} {h : Heap} {vs : List Value} {ns : List Int} (hI : IntsAre vs ns) : RdL G h vs (scrD ns) := by
  induction hI with
  | nil => exact .nil
  | cons n t _ ih => exact .cons (.int n t) ih
variable {prog : Program} {w : World} {s₁ : Shared} {mg mb : Str → Option Value} {K0 : Frag} {c1 P1 c2 P2 : Addr}
theorem call_fin {B : Bs} {L : Nat} {f : Value} {a : Addr} {its : Array Value} {ns : List Int} {Q E : Value → Shared → Prop} (h0 : B.h0 = s₁.heap) (tabs : ∀ b ∈ B.tb, isCodeTable s₁.heap b ∧ s₁.heap.get? b = some (tabO #[])) (htk : 1 ≤ s₁.toks)
    (ha : s₁.heap.get? a = some { cls := .type "list", data := .seq its }) (hI : IntsAre its.toList ns) (hcall : OkCall B L f [.lst (scrD ns)] (.bool true)) (hR : Room L callerA)
    (hQ : ∀ s', OldK s₁.heap s'.heap → s'.os = s₁.os → s'.gens = s₁.gens → Q (.bool true) s') : wpAny B.M callerA (call f [.ref a]) Q E s₁ := by
  have tq : TQ B.tb B.dn s₁.heap := fun P hP => .inl (tabs P hP).2
  have haO : a ∉ B.tb := fun hm => by rw [(tabs a hm).2] at ha; cases ha
  have st : St B ⟨B.tb, fun _ => 0, 1⟩ s₁ := ⟨fun b o _ e => h0 ▸ e, tq, fun a h => h, fun a ha => Heap.lt_size (tabs a ha).2, htk, Nat.one_pos⟩
  refine (hcall callerA ⟨B.tb, fun _ => 0, 1⟩ s₁ [.ref a] E Q hR st (.cons (.lst haO ha (rd_ints hI)) .nil) fun v G' s' ke rd => ?_).w
  obtain rfl := show v = .bool true from rd.boolK rfl
  obtain ⟨h', tk, es⟩ := ke.same
  have tq' := ke.tg tq
  refine hQ s' ⟨fun b o e => ?_, fun b o e => ?_⟩ (by rw [es]) (by rw [es])
  · by_cases hb : b ∈ B.tb
    · obtain ⟨hc1, hc2⟩ := tabs b hb
      obtain ⟨vs, hvs⟩ := TQ.some tq' hb
      obtain rfl := Option.some.inj (hc2.symm.trans e)
      exact .inr (.inl ⟨hc1, rfl, #[], vs, rfl, by rw [Array.empty_append]; exact hvs⟩)
    · exact .inl (ke.kp b o hb e)
  · by_cases hb : b ∈ B.tb
    · obtain ⟨vs, hvs⟩ := TQ.some tq' hb
      exact ⟨_, hvs⟩
    · exact ⟨_, ke.kp b o hb e⟩
theorem two_tab {P : Addr → Prop} {a b : Addr} (h1 : P a) (h2 : P b) : ∀ x ∈ [a, b], P x := fun x hx => (List.mem_cons.mp hx).elim (fun e => e ▸ h1) fun hx => List.mem_singleton.mp hx ▸ h2
theorem bat_of {P bm : Addr} {ob : Obj} (hg : s₁.heap.Ns mainGlobals mg) (q1 : mg "__builtins__" = some (.ref bm)) (q2 : bm ≠ builtinsNs) (q3 : s₁.heap.get? bm = some ob) (q4 : ob.cls = .type "module") (q5 : ob.dict = some builtinsNs) (q6 : ob.data = .plain)
    (hP : s₁.heap.get? P = some (tabO #[])) : s₁.heap.BuiltinsAt mg P := by
  refine ⟨bm, ob, q1, q2, fun e => ?_, fun e => ?_, q3, q4, q5, q6⟩
  · obtain ⟨o, es, ep, ho, hd, _⟩ := hg
    rw [← e, q3] at ho
    rw [← Option.some.inj ho, q6] at hd; cases hd
  · rw [← e, q3] at hP
    rw [Option.some.inj hP] at q4; cases q4
noncomputable def tabDn (P1 : Addr) : Addr → Pos × Str := fun P => if P = P1 then (stPos dI2i, Str.ofString "_int2digits.<locals>.inner") else (stPos dD2n, Str.ofString "_digits2int.<locals>.inner")
theorem law_callB {B : Bs} (hb0 : B.h0 = s₁.heap) (htb : B.tb = [P1, P2]) (hdn : B.dn = tabDn P1) (Koff : (offT P1 P2 K0).In s₁.heap) (H : Hold (offT P1 P2 K0) aC aP1 aP2 c1 P1 c2 P2) (e1 : s₁.heap.get? P1 = some (tabO #[])) (e2 : s₁.heap.get? P2 = some (tabO #[])) (hne : P2 ≠ P1)
    (hbb : ∀ x : Str, x ≠ "__name__" → B.mb x = bootBuiltins x) (bat : ∀ P, s₁.heap.get? P = some (tabO #[]) → s₁.heap.BuiltinsAt B.mg P) (htk : 1 ≤ s₁.toks)
    {a : Addr} {its : Array Value} {ns : List Int} (ha : s₁.heap.get? a = some { cls := .type "list", data := .seq its }) (hI : IntsAre its.toList ns) (hlen : ns.length ≤ 1000) {fa : Addr} (hfa : B.mg "law" = some (.ref fa)) {Q E : Value → Shared → Prop}
    (hQ : ∀ s', OldK s₁.heap s'.heap → s'.os = s₁.os → s'.gens = s₁.gens → Q (.bool true) s') : wpAny B.M callerA (call (.ref fa) [.ref a]) Q E s₁ := by
  have kb : KB B (offT P1 P2 K0) := ⟨hb0 ▸ Koff, fun a o e hm => by
    obtain ⟨_, h1, h2⟩ := offT_in e
    rw [htb] at hm
    exact two_tab (P := fun x => a = x → False) h1 h2 a hm rfl⟩
  obtain ⟨nv, ch1, ch2⟩ := nv_all (B := B) kb H hbb (by rw [htb]; exact List.mem_cons_self) (by rw [htb]; exact List.mem_cons_of_mem _ List.mem_cons_self) (by rw [hdn]; exact if_pos rfl) (by rw [hdn]; exact if_neg hne) (hb0 ▸ bat _ e1) (hb0 ▸ bat _ e2)
  obtain ⟨fa', hfa', fat⟩ := nv.lw
  have hfe : fa' = fa := Value.ref.inj (Option.some.inj ((show B.mg "law" = some (.ref fa') from hfa').symm.trans hfa))
  subst hfe
  refine call_fin hb0 ?_ htk ha hI (fn_ok fat (evS_ok nv.nv (hkLaw_ok nv.nv nv.nw nv.cC nv.sd 12) 12 9 13) (law_run (xs := ns) hlen)) ⟨rfl, by decide, by decide⟩ hQ
  rw [htb]
  exact two_tab ⟨((codeHd_of_K Koff ch1).tab e1).isCodeTable, e1⟩ ⟨((codeHd_of_K Koff ch2).tab e2).isCodeTable, e2⟩
theorem law_call (KIn : K0.In s₁.heap) (H : Hold (offT P1 P2 K0) aC aP1 aP2 c1 P1 c2 P2) (hs : noneIn (offT P1 P2 K0) cStatics sharingNotToldKey = true) (t1 : K0.lookup P1 = some (tabO #[])) (t2 : K0.lookup P2 = some (tabO #[])) (hl1 : P1 ≠ mainGlobals ∧ P1 ≠ builtinsNs ∧ P1 ≠ cStatics) (hl2 : P2 ≠ mainGlobals ∧ P2 ≠ builtinsNs ∧ P2 ≠ cStatics) (hne : P2 ≠ P1)
    (hg : s₁.heap.Ns mainGlobals mg) (hbn : s₁.heap.Ns builtinsNs mb) (hnl : s₁.heap.NoLimit) (hbb : ∀ x : Str, x ≠ "__name__" → mb x = bootBuiltins x)
    (hbm : ∃ bm ob, mg "__builtins__" = some (.ref bm) ∧ bm ≠ builtinsNs ∧ s₁.heap.get? bm = some ob ∧ ob.cls = .type "module" ∧ ob.dict = some builtinsNs ∧ ob.data = .plain) (htk : 1 ≤ s₁.toks)
    {a : Addr} {its : Array Value} {ns : List Int} (ha : s₁.heap.get? a = some { cls := .type "list", data := .seq its }) (hI : IntsAre its.toList ns) (hlen : ns.length ≤ 1000) {fa : Addr} (hfa : mg "law" = some (.ref fa)) {Q E : Value → Shared → Prop}
    (hQ : ∀ s', OldK s₁.heap s'.heap → s'.os = s₁.os → s'.gens = s₁.gens → Q (.bool true) s') : wpAny (model prog w) callerA (call (.ref fa) [.ref a]) Q E s₁ := by
  obtain ⟨bm, ob, q1, q2, q3, q4, q5, q6⟩ := hbm
  obtain ⟨mc, hc, hlim⟩ := hnl
  have e1 : s₁.heap.get? P1 = some (tabO #[]) := KIn _ _ t1
  have e2 : s₁.heap.get? P2 = some (tabO #[]) := KIn _ _ t2
  have Koff : (offT P1 P2 K0).In s₁.heap := fun a o e => KIn a o (offT_in e).1
  exact law_callB (B := { prog := prog, w := w, h0 := s₁.heap, tb := [P1, P2], mg := mg, mb := mb, mc := mc, hg := hg, hb := hbn, hc := hc, lim := hlim, shr := ns_none_of Koff hc (noneIn_of hs), low := two_tab hl1 hl2, dn := tabDn P1, tab := two_tab (.inl e1) (.inl e2) })
    rfl rfl rfl Koff H e1 e2 hne hbb (fun P hP => bat_of hg q1 q2 q3 q4 q5 q6 hP) htk ha hI hlen hfa hQ
end Mine

end
section
open PySem PySem.W PyProof.Rows PySem.Calls PySem.W.X
set_option maxRecDepth 100000 in
set_option maxHeartbeats 0 in
theorem PySem.Challenge.cw_pu0068_01_holds : PySem.Challenge.rw_pu0068_01.Holds := by
  w_on; o_law; z_head; (case hw => w_witness2)
  intro w s₀ s₁ mg mb G y fa o pm cd doc dV kV ho hd hcd hD hmg hg args vals as L hpre hlay hrd hwl hlo
  have Z := z_facts (fun _ => by kernel_rfl) y
  refine Ground.open G ?_
  intro T B D TE TW
  wrow_args hpre hlay hrd hwl hlo
  rename_i ns hs hlay0 hL1 hr1 hl2 w4 w3 a vs w0 hL ra w1 r0 hI hr hc1 hc2
  have hobj := script_obj L hL
  have htk := script_toks L Z.2.2.2
  refine Mine.law_call (c1 := 58) (P1 := 54) (c2 := 65) (P2 := 61) (Frag.In.keeps Z.2.1 L.keeps) ?_ (by kernel_rfl) (by kernel_rfl) (by kernel_rfl) (by decide) (by decide) (by decide)
    T.g T.b T.nolimit T.builtins T.bmain (Nat.le_trans (by decide) htk) hobj hI (by omega) hmg ?_
  · refine ⟨⟨by kernel_rfl, by kernel_rfl, by kernel_rfl, by kernel_rfl, by kernel_rfl, by kernel_rfl, by kernel_rfl, by kernel_rfl⟩, by kernel_rfl, ?_, ?_, by kernel_rfl, by kernel_rfl, by kernel_rfl, by kernel_rfl, by kernel_rfl, by kernel_rfl, by kernel_rfl, ⟨by kernel_rfl, by kernel_rfl, by kernel_rfl, by kernel_rfl⟩, ⟨by kernel_rfl, by kernel_rfl, by kernel_rfl, by kernel_rfl⟩, ⟨by kernel_rfl, by kernel_rfl, by kernel_rfl, by kernel_rfl⟩, ⟨by kernel_rfl, by kernel_rfl, by kernel_rfl, by kernel_rfl⟩, ⟨by kernel_rfl, by kernel_rfl, by kernel_rfl, by kernel_rfl⟩, fun _ _ _ => by kernel_rfl, ⟨by kernel_rfl, by kernel_rfl, by kernel_rfl, by kernel_rfl⟩, ⟨by kernel_rfl, by kernel_rfl, by kernel_rfl, by kernel_rfl⟩, fun _ _ _ => by kernel_rfl, fun _ => by kernel_rfl, ⟨⟨by kernel_rfl, by kernel_rfl, by kernel_rfl, by kernel_rfl⟩, by kernel_rfl, by kernel_rfl, by kernel_rfl⟩, ⟨⟨by kernel_rfl, by kernel_rfl, by kernel_rfl, by kernel_rfl⟩, by kernel_rfl, by kernel_rfl, by kernel_rfl⟩, fun _ _ => by kernel_rfl, fun _ _ => by kernel_rfl, ⟨by kernel_rfl, by kernel_rfl, by kernel_rfl, by kernel_rfl⟩, fun _ _ _ => by kernel_rfl, ⟨by kernel_rfl, by kernel_rfl, by kernel_rfl, by kernel_rfl⟩, fun _ _ _ _ _ _ => by kernel_rfl, ⟨by kernel_rfl, by kernel_rfl, by kernel_rfl, by kernel_rfl⟩, fun _ _ => by kernel_rfl, ⟨by kernel_rfl, by kernel_rfl, by kernel_rfl, by kernel_rfl⟩, fun _ _ => by kernel_rfl, ⟨by kernel_rfl, by kernel_rfl, by kernel_rfl, by kernel_rfl⟩, fun _ _ _ => by kernel_rfl, ⟨by kernel_rfl, by kernel_rfl, by kernel_rfl, by kernel_rfl⟩, fun _ _ _ => by kernel_rfl, ⟨by kernel_rfl, by kernel_rfl, by kernel_rfl, by kernel_rfl⟩, fun _ => by kernel_rfl, ⟨by kernel_rfl, by kernel_rfl, by kernel_rfl, by kernel_rfl⟩, fun _ => by kernel_rfl, ⟨by kernel_rfl, by kernel_rfl, by kernel_rfl, by kernel_rfl⟩, fun _ => by kernel_rfl⟩
    · exact ⟨by kernel_rfl, by kernel_rfl, by kernel_rfl, by kernel_rfl, by kernel_rfl, by kernel_rfl, by kernel_rfl, by kernel_rfl, by kernel_rfl, by kernel_rfl⟩
    · exact ⟨by kernel_rfl, by kernel_rfl, by kernel_rfl, by kernel_rfl, by kernel_rfl, by kernel_rfl, by kernel_rfl, by kernel_rfl, by kernel_rfl, by kernel_rfl⟩
  · intro s' hold hos hgen
    exact ⟨.inl ⟨.bool true, .bool true, [], rfl, fun _ => rfl, .bool true, by kernel_rfl, fun _ => ⟨List.nodup_nil, fun _ h => nomatch h⟩⟩, hold, hos, .of_eq (hgen.trans hg)⟩
end
