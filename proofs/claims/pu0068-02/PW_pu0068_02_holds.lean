import PyProof.Rows.All
import Wide.All
import OpenK.AllK
import Wide.FinOn
import Lean
import PySem.Challenge.RW_pu0068_02
set_option Elab.async false
set_option bootstrap.genMatcherCode false
section
open PySem PySem.W PyProof.Rows
set_option Elab.async false
namespace Mine

/-- the heap never shrinks -/
theorem runs_size {M : Model} {Γ : Ctx} {p : Pos} {t : Sem Fin} {fs : List Frame} {s s' : Shared} {e : End} (h : Runs M Γ p t fs s e s') : s.heap.objs.size ≤ s'.heap.objs.size := by
  induction h <;> (try simp only [Shared.setGen, Heap.size_push, Heap.size_after_update] at *) <;> omega
theorem wakes_size {M : Model} {Γ : Ctx} {p : Pos} {g : Nat} {r : Resume} {s s' : Shared} {res : GenResult} (h : Wakes M Γ p g r s res s') : s.heap.objs.size ≤ s'.heap.objs.size := by
  unfold Wakes at h
  split at h
  · exact h.elim
  · split at h
    · obtain ⟨e₁, s₁, hr, _, _, rfl⟩ := h; exact (runs_size hr : (s.setGen g .running).heap.objs.size ≤ s₁.heap.objs.size)
    · rw [h.2]; exact Nat.le_refl _
    · rw [h.2]; exact Nat.le_refl _
  · obtain ⟨e₁, s₁, hr, _, _, rfl⟩ := h; exact (runs_size hr : (s.setGen g .running).heap.objs.size ≤ s₁.heap.objs.size)
  · rw [h.2]; exact Nat.le_refl _
  · rw [h.2]; exact Nat.le_refl _
theorem wp_size {α : Type} (M : Model) (Γ : Ctx) (n : Nat) (t : Sem α) : ∀ (Q : α → Pos → Shared → Prop) (E : Value → Pos → Shared → Prop) (p : Pos) (s : Shared), n ≤ s.heap.objs.size → Sem.wp M Γ t Q E p s →
    Sem.wp M Γ t (fun a p' s' => n ≤ s'.heap.objs.size ∧ Q a p' s') E p s := by
  induction t with
  | pure a => intro Q E p s hn h; exact ⟨hn, h⟩
  | raise e => intro Q E p s hn h; exact h
  | unsupported | finish | yield | fork | await | register => intro Q E p s _ h; exact h
  | rule _ k ih | «at» _ k ih | loadIfAlive _ k ih | point _ k ih | fresh k ih | ask k ih | os _ _ k ih | handled _ k ih | newGen _ k ih | stack k ih | thread k ih => intro Q E p s hn h; exact ih _ Q E _ _ hn h
  | alloc o k ih => intro Q E p s hn h; exact ih _ Q E p _ (by rw [Heap.size_push]; exact Nat.le_succ_of_le hn) h
  | load a _ k ih | genState a k ih => intro Q E p s hn h; obtain ⟨o, ho, h⟩ := h; exact ⟨o, ho, ih _ Q E p s hn h⟩
  | update a _ f k ih => intro Q E p s hn h; exact ⟨h.1, ih () Q E p _ (by rw [Heap.size_after_update]; exact hn) h.2⟩
  | choose src m k ih => intro Q E p s hn h; exact ⟨h.1, ih _ Q E p _ hn h.2⟩
  | call c hd _ _ k ih => intro Q E p s hn h; obtain ⟨r, s', hr, h⟩ := h; exact ⟨r, s', hr, ih r Q E p s' (Nat.le_trans hn (runs_size hr)) h⟩
  | resume g r _ k ih => intro Q E p s hn h; obtain ⟨res, s', hw, h⟩ := h; exact ⟨res, s', hw, ih res Q E p s' (Nat.le_trans hn (wakes_size hw)) h⟩

/-- deep data: what a value stands for -/
inductive D where
  | none
  | bool (b : Bool)
  | int (i : Int)
  | flt (x : UInt64)
  | str (s : Str)
  | tup (xs : List D)
  | lst (xs : List D)
  | rng (a b : Int)
  | hdr (C : Addr) (xs : List D)
  | ref (a : Addr)
  | typ (n : String)

/-- the ghost: the addresses that the frame may turn; the floats by their tokens; the tokens' bound -/
structure Gh where
  O : List Addr
  τ : Tok → UInt64
  n : Nat

/-- the heap stands but for X -/
noncomputable def Kp (X : List Addr) (h h' : Heap) : Prop := ∀ b o, b ∉ X → h.get? b = some o → h'.get? b = some o

theorem Kp.refl (X : List Addr) (h : Heap) : Kp X h h := fun _ _ _ e => e
theorem Kp.trans {X : List Addr} {h h' h'' : Heap} (a : Kp X h h') (b : Kp X h' h'') : Kp X h h'' := fun x o hx e => b x o hx (a x o hx e)
theorem Kp.mono {X Y : List Addr} {h h' : Heap} (a : Kp X h h') (s : ∀ b ∈ X, b ∈ Y) : Kp Y h h' := fun x o hx e => a x o (fun m => hx (s x m)) e
theorem Kp.all {X : List Addr} {h h' : Heap} (k : ∀ b o, h.get? b = some o → h'.get? b = some o) : Kp X h h' := fun b o _ e => k b o e
theorem Kp.push (X : List Addr) (h : Heap) (o : Obj) : Kp X h (h.push o) := fun _ _ _ e => Heap.get?_push_of_some o e
theorem Kp.same {X : List Addr} {h h' : Heap} {a : Addr} (s : Heap.SameBut a h h') (ha : a ∈ X) : Kp X h h' := fun b o hb e => by
  rw [s.2 b (fun q => hb (q ▸ ha))]; exact e
theorem Kp.ext {X : List Addr} {h h' : Heap} {a : Addr} (s : Heap.ExtBut a h h') (ha : a ∈ X) : Kp X h h' := fun b o hb e => s b o (fun q => hb (q ▸ ha)) e

/-- code tables may grow -/
noncomputable abbrev tabO (vs : Array Value) : Obj := { cls := .none, data := .fields vs }
/-- an address that bears no code -/
noncomputable def NC (h : Heap) (a : Addr) : Prop := ∀ o vs, h.get? a = some o → o.cls = .type "code" → o.data = .fields vs → False
/-- code stays -/
noncomputable def Cd (h h' : Heap) : Prop := ∀ a o vs, h.get? a = some o → o.cls = .type "code" → o.data = .fields vs → h'.get? a = some o
/-- the code tables: empty, or the one nested def's code -/
inductive TabOne (h : Heap) (P : Addr) (d : Pos × Str) : Prop
  | mk (c' : Addr) (o : Obj) (vs : Array Value) (t : Tok) (h1 : h.get? P = some (tabO #[rawInt d.1.line, rawInt d.1.col, .ref c'])) (h2 : h.get? c' = some o) (h3 : o.cls = .type "code") (h4 : o.data = .fields vs) (h5 : vs[1]? = some (.str d.2 t)) : TabOne h P d
noncomputable def TQ (tb : List Addr) (dn : Addr → Pos × Str) (h : Heap) : Prop := ∀ P ∈ tb, h.get? P = some (tabO #[]) ∨
  TabOne h P (dn P)
noncomputable def Tg (tb : List Addr) (dn : Addr → Pos × Str) (h h' : Heap) : Prop := TQ tb dn h → TQ tb dn h'
theorem TQ.some {tb : List Addr} {dn : Addr → Pos × Str} {h : Heap} (x : TQ tb dn h) {P : Addr} (hP : P ∈ tb) : ∃ vs, h.get? P = some (tabO vs) := (x P hP).elim (fun e => ⟨_, e⟩) fun ⟨_, _, _, _, e, _, _, _, _⟩ => ⟨_, e⟩
theorem Cd.refl (h : Heap) : Cd h h := fun _ _ _ e _ _ => e
theorem Cd.trans {h h' h'' : Heap} (a : Cd h h') (b : Cd h' h'') : Cd h h'' := fun x o vs e c d => b x o vs (a x o vs e c d) c d
theorem Cd.all {h h' : Heap} (k : ∀ b o, h.get? b = some o → h'.get? b = some o) : Cd h h' := fun x o _ e _ _ => k x o e
theorem Cd.ext {h h' : Heap} {a : Addr} (hs : Heap.ExtBut a h h') (hn : NC h a) : Cd h h' := fun x o vs e c d => hs x o (fun q => hn o vs (q ▸ e) c d) e
theorem Tg.refl {dn : Addr → Pos × Str} (tb : List Addr) (h : Heap) : Tg tb dn h h := id
theorem Tg.trans {tb : List Addr} {dn : Addr → Pos × Str} {h h' h'' : Heap} (a : Tg tb dn h h') (b : Tg tb dn h' h'') : Tg tb dn h h'' := fun x => b (a x)
theorem Tg.keep {tb : List Addr} {dn : Addr → Pos × Str} {h h' : Heap} (k : ∀ P ∈ tb, ∀ o, h.get? P = some o → h'.get? P = some o) (c : Cd h h') : Tg tb dn h h' := fun x P hP =>
  (x P hP).imp (k P hP _) fun ⟨c', o, vs, t, e1, e2, e3, e4, e5⟩ => ⟨c', o, vs, t, k P hP _ e1, c c' o vs e2 e3 e4, e3, e4, e5⟩
theorem Tg.all {tb : List Addr} {dn : Addr → Pos × Str} {h h' : Heap} (k : ∀ b o, h.get? b = some o → h'.get? b = some o) : Tg tb dn h h' := .keep (fun P _ o => k P o) (.all k)
theorem NC.data {h : Heap} {a : Addr} {o : Obj} (e : h.get? a = some o) (d : ∀ vs, o.data ≠ .fields vs) : NC h a := fun o' vs e' _ d' => by
  rw [e] at e'; cases e'; exact d vs d'
theorem NC.cls {h : Heap} {a : Addr} {o : Obj} (e : h.get? a = some o) (d : o.cls ≠ .type "code") : NC h a := fun o' vs e' d' _ => by
  rw [e] at e'; cases e'; exact d d'
theorem NC.ns {h : Heap} {a : Addr} {m : Str → Option Value} (n : h.Ns a m) : NC h a := let ⟨_, _, _, e, d, _⟩ := n; .data e fun vs q => by rw [d] at q; cases q
theorem NC.cell {h : Heap} {a : Addr} {v : Option Value} (n : h.IsCell a v) : NC h a := let ⟨_, e, d⟩ := n; .data e fun vs q => by rw [d] at q; cases q
noncomputable abbrev LstAt (h : Heap) (a : Addr) (items : Array Value) (n : Nat) : Prop := h.get? a = some ({ cls := .type "list", data := .seq items n } : Obj)
noncomputable abbrev TupAt (h : Heap) (a : Addr) (items : Array Value) (n : Nat) : Prop := h.get? a = some ({ cls := .type "tuple", data := .seq items n } : Obj)
theorem LstAt.nc {h : Heap} {a : Addr} {items : Array Value} {n : Nat} (x : LstAt h a items n) : NC h a := .data x fun _ q => nomatch q
theorem LstAt.is {h : Heap} {a : Addr} {items : Array Value} {n : Nat} (x : LstAt h a items n) : h.IsList a items := ⟨_, x, rfl, n, rfl⟩
theorem TupAt.is {h : Heap} {a : Addr} {items : Array Value} {n : Nat} (x : TupAt h a items n) : h.IsTuple a items := ⟨_, x, rfl, n, rfl⟩

mutual
/-- the value v stands for d; what it lies in is not in O -/
inductive Rd (G : Gh) (h : Heap) : Value → D → Prop
  | none : Rd G h .none .none
  | bool (b : Bool) : Rd G h (.bool b) (.bool b)
  | int (i : Int) (t : Tok) : Rd G h (.int i t) (.int i)
  | flt {x : UInt64} {t : Tok} : 0 < t → t < G.n → G.τ t = x → Rd G h (.float x t) (.flt x)
  | str (s : Str) (t : Tok) : Rd G h (.str s t) (.str s)
  | typ (n : String) : Rd G h (.type n) (.typ n)
  | tup {a : Addr} {items : Array Value} {n : Nat} {ds : List D} : a ∉ G.O → TupAt h a items n → RdL G h items.toList ds → Rd G h (.ref a) (.tup ds)
  | lst {a : Addr} {items : Array Value} {n : Nat} {ds : List D} : a ∉ G.O → LstAt h a items n → RdL G h items.toList ds → Rd G h (.ref a) (.lst ds)
  | rng {r : Addr} {a b : Int} {t u v : Tok} : r ∉ G.O → IsRange h r a b 1 t u v → Rd G h (.ref r) (.rng a b)
  | hdr {a dx l C : Addr} {items : Array Value} {n : Nat} {ds : List D} : a ∉ G.O → dx ∉ G.O → l ∉ G.O → h.get? a = some ({ cls := .ref C, dict := some dx, data := .plain } : Obj) → dx ≠ a →
      h.Ns1 dx (fun x => if x = ("_headers" : Str) then some (.ref l) else none) → LstAt h l items n → RdL G h items.toList ds → Rd G h (.ref a) (.hdr C ds)
  | ref (a : Addr) : Rd G h (.ref a) (.ref a)
inductive RdL (G : Gh) (h : Heap) : List Value → List D → Prop
  | nil : RdL G h [] []
  | cons {v : Value} {d : D} {vs : List Value} {ds : List D} : Rd G h v d → RdL G h vs ds → RdL G h (v :: vs) (d :: ds)
end


/-! what a value is, by what it stands for (cheaper than cases: one goal, no other constructors) -/
noncomputable def RdK (G : Gh) (h : Heap) (v : Value) : D → Prop
  | .none => ∀ P : Value → Prop, P .none → P v
  | .bool b => ∀ P : Value → Prop, P (.bool b) → P v
  | .int i => ∀ P : Value → Prop, (∀ t, P (.int i t)) → P v
  | .flt x => ∀ P : Value → Prop, (∀ t, 0 < t → t < G.n → G.τ t = x → P (.float x t)) → P v
  | .str x => ∀ P : Value → Prop, (∀ t, P (.str x t)) → P v
  | .typ n => ∀ P : Value → Prop, P (.type n) → P v
  | .ref a => ∀ P : Value → Prop, P (.ref a) → P v
  | .tup ds => ∀ P : Value → Prop, (∀ a items n, a ∉ G.O → TupAt h a items n → RdL G h items.toList ds → P (.ref a)) → P v
  | .lst ds => ∀ P : Value → Prop, (∀ a items n, a ∉ G.O → LstAt h a items n → RdL G h items.toList ds → P (.ref a)) → P v
  | .rng a b => ∀ P : Value → Prop, (∀ r t u w, r ∉ G.O → IsRange h r a b 1 t u w → P (.ref r)) → P v
  | .hdr C ds => ∀ P : Value → Prop, (∀ a dx l items n, a ∉ G.O → dx ∉ G.O → l ∉ G.O → h.get? a = some ({ cls := .ref C, dict := some dx, data := .plain } : Obj) → dx ≠ a → h.Ns1 dx (fun x => if x = ("_headers" : Str) then some (.ref l) else Option.none) → LstAt h l items n → RdL G h items.toList ds → P (.ref a)) → P v
theorem Rd.inv {G : Gh} {h : Heap} {v : Value} {d : D} (r : Rd G h v d) : RdK G h v d := by
  cases r
  case none => exact fun _ k => k
  case bool => exact fun _ k => k
  case int => exact fun _ k => k _
  case flt h1 h2 h3 => exact fun _ k => k _ h1 h2 h3
  case str => exact fun _ k => k _
  case typ => exact fun _ k => k
  case ref => exact fun _ k => k
  case tup h1 h2 h3 => exact fun _ k => k _ _ _ h1 h2 h3
  case lst h1 h2 h3 => exact fun _ k => k _ _ _ h1 h2 h3
  case rng h1 h2 => exact fun _ k => k _ _ _ _ h1 h2
  case hdr h1 h2 h3 h4 h5 h6 h7 h8 => exact fun _ k => k _ _ _ _ _ h1 h2 h3 h4 h5 h6 h7 h8
section
variable {G : Gh} {h : Heap} {v : Value} {P : Value → Prop}
@[elab_as_elim] theorem Rd.noneK (r : Rd G h v .none) (k : P .none) : P v := r.inv P k
@[elab_as_elim] theorem Rd.boolK {b : Bool} (r : Rd G h v (.bool b)) (k : P (.bool b)) : P v := r.inv P k
@[elab_as_elim] theorem Rd.intK {i : Int} (r : Rd G h v (.int i)) (k : ∀ t, P (.int i t)) : P v := r.inv P k
@[elab_as_elim] theorem Rd.fltK {x : UInt64} (r : Rd G h v (.flt x)) (k : ∀ t, 0 < t → t < G.n → G.τ t = x → P (.float x t)) : P v := r.inv P k
@[elab_as_elim] theorem Rd.strK {x : Str} (r : Rd G h v (.str x)) (k : ∀ t, P (.str x t)) : P v := r.inv P k
@[elab_as_elim] theorem Rd.typK {n : String} (r : Rd G h v (.typ n)) (k : P (.type n)) : P v := r.inv P k
@[elab_as_elim] theorem Rd.refK {a : Addr} (r : Rd G h v (.ref a)) (k : P (.ref a)) : P v := r.inv P k
@[elab_as_elim] theorem Rd.tupK {ds : List D} (r : Rd G h v (.tup ds)) (k : ∀ a items n, a ∉ G.O → TupAt h a items n → RdL G h items.toList ds → P (.ref a)) : P v := r.inv P k
@[elab_as_elim] theorem Rd.lstK {ds : List D} (r : Rd G h v (.lst ds)) (k : ∀ a items n, a ∉ G.O → LstAt h a items n → RdL G h items.toList ds → P (.ref a)) : P v := r.inv P k
@[elab_as_elim] theorem Rd.rngK {a b : Int} (r : Rd G h v (.rng a b)) (k : ∀ r t u w, r ∉ G.O → IsRange h r a b 1 t u w → P (.ref r)) : P v := r.inv P k
@[elab_as_elim] theorem Rd.hdrK {C : Addr} {ds : List D} (r : Rd G h v (.hdr C ds)) (k : (∀ a dx l items n, a ∉ G.O → dx ∉ G.O → l ∉ G.O → h.get? a = some ({ cls := .ref C, dict := some dx, data := .plain } : Obj) → dx ≠ a → h.Ns1 dx (fun x => if x = ("_headers" : Str) then some (.ref l) else Option.none) → LstAt h l items n → RdL G h items.toList ds → P (.ref a))) : P v := r.inv P k
/-- and by the value -/
noncomputable def RdV : Value → D → Prop
  | .none, d => d = .none
  | .bool b, d => d = .bool b
  | .int i _, d => d = .int i
  | .float x _, d => d = .flt x
  | .str x _, d => d = .str x
  | .type n, d => d = .typ n
  | _, _ => True
theorem Rd.vinv {d : D} (r : Rd G h v d) : RdV v d := by
  cases r
  case flt h0 hn hτ => subst hτ; exact rfl
  all_goals first | exact rfl | exact trivial
theorem Rd.tupV {a : Addr} {ds : List D} (r : Rd G h (.ref a) (.tup ds)) : ∃ items n, TupAt h a items n ∧ RdL G h items.toList ds :=
  r.inv (fun v => ∀ b, v = .ref b → ∃ items n, TupAt h b items n ∧ RdL G h items.toList ds) (fun _ i n _ h1 h2 _ e => Value.ref.inj e ▸ ⟨i, n, h1, h2⟩) a rfl
theorem Rd.lstV {a : Addr} {ds : List D} (r : Rd G h (.ref a) (.lst ds)) : ∃ items n, LstAt h a items n ∧ RdL G h items.toList ds :=
  r.inv (fun v => ∀ b, v = .ref b → ∃ items n, LstAt h b items n ∧ RdL G h items.toList ds) (fun _ i n _ h1 h2 _ e => Value.ref.inj e ▸ ⟨i, n, h1, h2⟩) a rfl
@[elab_as_elim] theorem RdL.nilK {vs : List Value} {P : List Value → Prop} (r : RdL G h vs []) (k : P []) : P vs := by cases r; exact k
@[elab_as_elim] theorem RdL.consK {vs : List Value} {d : D} {ds : List D} {P : List Value → Prop} (r : RdL G h vs (d :: ds)) (k : ∀ v vs, Rd G h v d → RdL G h vs ds → P (v :: vs)) : P vs := by cases r; exact k _ _ ‹_› ‹_›
end
/-! answers -/
theorem nsd {α : Type} {d : α} {P : Prop} (h : (none : Option α) = some d) : P := by cases h
theorem nft {P : Prop} (h : false = true) : P := Bool.noConfusion h
theorem ntf {P : Prop} (h : true = false) : P := Bool.noConfusion h
@[elab_as_elim] theorem smK {α : Type} {x d : α} {P : α → Prop} (h : some x = some d) (k : P x) : P d := by cases h; exact k
@[elab_as_elim] theorem smR {α : Type} {x d : α} {P : α → Prop} (h : some x = some d) (k : P d) : P x := by cases h; exact k
theorem ifT {α : Type} {c : Prop} [Decidable c] {t : Option α} {d : α} {P : Prop} (h : (if c then t else none) = some d) (k : c → t = some d → P) : P := by
  by_cases hc : c
  · rw [if_pos hc] at h; exact k hc h
  · rw [if_neg hc] at h; exact nsd h
theorem ifF {α : Type} {c : Prop} [Decidable c] {t : Option α} {d : α} {P : Prop} (h : (if c then none else t) = some d) (k : ¬ c → t = some d → P) : P := by
  by_cases hc : c
  · rw [if_pos hc] at h; exact nsd h
  · rw [if_neg hc] at h; exact k hc h

/-! what a datum bears -/
noncomputable def intOf1 : D → Option Int
  | .int a => some a
  | _ => none
noncomputable def fltOf1 : D → Option UInt64
  | .flt a => some a
  | _ => none
noncomputable def strOf1 : D → Option Str
  | .str a => some a
  | _ => none
noncomputable def boolOf1 : D → Option Bool
  | .bool a => some a
  | _ => none
noncomputable def refOf1 : D → Option Addr
  | .ref a => some a
  | _ => none
noncomputable def lstOf1 : D → Option (List D)
  | .lst a => some a
  | _ => none
noncomputable def tupOf1 : D → Option (List D)
  | .tup a => some a
  | _ => none
theorem intOf1_eq {d : D} {x : Int} (h : intOf1 d = some x) : d = .int x := by cases d <;> first | exact nsd h | exact congrArg D.int (Option.some.inj h)
theorem fltOf1_eq {d : D} {x : UInt64} (h : fltOf1 d = some x) : d = .flt x := by cases d <;> first | exact nsd h | exact congrArg D.flt (Option.some.inj h)
theorem strOf1_eq {d : D} {x : Str} (h : strOf1 d = some x) : d = .str x := by cases d <;> first | exact nsd h | exact congrArg D.str (Option.some.inj h)
theorem boolOf1_eq {d : D} {x : Bool} (h : boolOf1 d = some x) : d = .bool x := by cases d <;> first | exact nsd h | exact congrArg D.bool (Option.some.inj h)
theorem refOf1_eq {d : D} {x : Addr} (h : refOf1 d = some x) : d = .ref x := by cases d <;> first | exact nsd h | exact congrArg D.ref (Option.some.inj h)
theorem lstOf1_eq {d : D} {x : List D} (h : lstOf1 d = some x) : d = .lst x := by cases d <;> first | exact nsd h | exact congrArg D.lst (Option.some.inj h)
theorem tupOf1_eq {d : D} {x : List D} (h : tupOf1 d = some x) : d = .tup x := by cases d <;> first | exact nsd h | exact congrArg D.tup (Option.some.inj h)
noncomputable def sole {α : Type} (f : D → Option α) : List D → Option α
  | [d] => f d
  | _ => none
theorem sole_eq {α : Type} {f : D → Option α} {ds : List D} {x : α} (h : sole f ds = some x) : ∃ d, ds = [d] ∧ f d = some x := by
  cases ds with
  | nil => exact nsd h
  | cons d r => cases r with
    | nil => exact ⟨d, rfl, h⟩
    | cons => exact nsd h
noncomputable def both {α β : Type} (a : Option α) (b : Option β) : Option (α × β) := match a with
  | some x => match b with
    | some y => some (x, y)
    | none => none
  | none => none
theorem both_eq {α β : Type} {a : Option α} {b : Option β} {p : α × β} (h : both a b = some p) : a = some p.1 ∧ b = some p.2 := by
  cases a with
  | none => exact nsd h
  | some x => cases b with
    | none => exact nsd h
    | some y => rw [← Option.some.inj h]; exact ⟨rfl, rfl⟩
noncomputable def two {α β : Type} (f : D → Option α) (g : D → Option β) (ds : List D) : Option (α × β) := match ds with
  | a :: r => both (f a) (sole g r)
  | [] => none
theorem two_eq {α β : Type} {f : D → Option α} {g : D → Option β} {ds : List D} {p : α × β} (h : two f g ds = some p) : ∃ a b, ds = [a, b] ∧ f a = some p.1 ∧ g b = some p.2 := by
  cases ds with
  | nil => exact nsd h
  | cons a r =>
    obtain ⟨h1, h2⟩ := both_eq h
    obtain ⟨b, e, h2⟩ := sole_eq h2
    exact ⟨a, b, by rw [e], h1, h2⟩
noncomputable def three {α β γ : Type} (f : D → Option α) (g : D → Option β) (k : D → Option γ) (ds : List D) : Option (α × β × γ) := match ds with
  | a :: r => both (f a) (two g k r)
  | [] => none
theorem three_eq {α β γ : Type} {f : D → Option α} {g : D → Option β} {k : D → Option γ} {ds : List D} {p : α × β × γ} (h : three f g k ds = some p) : ∃ a b c, ds = [a, b, c] ∧ f a = some p.1 ∧ g b = some p.2.1 ∧ k c = some p.2.2 := by
  cases ds with
  | nil => exact nsd h
  | cons a r =>
    obtain ⟨h1, h2⟩ := both_eq h
    obtain ⟨b, c, e, h2, h3⟩ := two_eq h2
    exact ⟨a, b, c, by rw [e], h1, h2, h3⟩

/-- all that stood for a thing stands for it still -/
structure Up (G : Gh) (h : Heap) (G' : Gh) (h' : Heap) : Prop where
  kp : Kp G.O h h'
  o : ∀ a ∈ G'.O, a ∈ G.O ∨ h.get? a = none
  n : G.n ≤ G'.n
  τ : ∀ t, t < G.n → G'.τ t = G.τ t

theorem Up.no {G G' : Gh} {h h' : Heap} (k : Up G h G' h') {a : Addr} {o : Obj} (ha : a ∉ G.O) (e : h.get? a = some o) : a ∉ G'.O := fun m => (k.o _ m).elim ha fun q => nsd (q.symm.trans e)
theorem Up.ns1 {G G' : Gh} {h h' : Heap} (k : Up G h G' h') {a : Addr} {m : Str → Option Value} (ha : a ∉ G.O) (n : h.Ns1 a m) : a ∉ G'.O ∧ h'.Ns1 a m := let ⟨o, es, ep, e, q⟩ := n; ⟨k.no ha e, o, es, ep, k.kp _ _ ha e, q⟩
theorem Rd.up {G G' : Gh} {h h' : Heap} (k : Up G h G' h') {v : Value} {d : D} (r : Rd G h v d) : Rd G' h' v d :=
  @Rd.rec G h (fun v d _ => Rd G' h' v d) (fun vs ds _ => RdL G' h' vs ds) .none (fun b => .bool b) (fun i t => .int i t) (fun h0 hn ht => .flt h0 (Nat.lt_of_lt_of_le hn k.n) ((k.τ _ hn).trans ht)) (fun s t => .str s t) (fun n => .typ n)
    (fun ha ht _ ih => .tup (k.no ha ht) (k.kp _ _ ha ht) ih) (fun ha ht _ ih => .lst (k.no ha ht) (k.kp _ _ ha ht) ih)
    (fun ha ht => .rng (k.no ha ht) (k.kp _ _ ha ht)) (fun ha hx hl ht hne hn hi _ ih => .hdr (k.no ha ht) (k.ns1 hx hn).1 (k.no hl hi) (k.kp _ _ ha ht) hne (k.ns1 hx hn).2 (k.kp _ _ hl hi) ih)
    (fun a => .ref a) .nil (fun _ _ x y => .cons x y) v d r
theorem RdL.up {G G' : Gh} {h h' : Heap} (k : Up G h G' h') {vs : List Value} {ds : List D} (r : RdL G h vs ds) : RdL G' h' vs ds :=
  @RdL.rec G h (fun v d _ => Rd G' h' v d) (fun vs ds _ => RdL G' h' vs ds) .none (fun b => .bool b) (fun i t => .int i t) (fun h0 hn ht => .flt h0 (Nat.lt_of_lt_of_le hn k.n) ((k.τ _ hn).trans ht)) (fun s t => .str s t) (fun n => .typ n)
    (fun ha ht _ ih => .tup (k.no ha ht) (k.kp _ _ ha ht) ih) (fun ha ht _ ih => .lst (k.no ha ht) (k.kp _ _ ha ht) ih)
    (fun ha ht => .rng (k.no ha ht) (k.kp _ _ ha ht)) (fun ha hx hl ht hne hn hi _ ih => .hdr (k.no ha ht) (k.ns1 hx hn).1 (k.no hl hi) (k.kp _ _ ha ht) hne (k.ns1 hx hn).2 (k.kp _ _ hl hi) ih)
    (fun a => .ref a) .nil (fun _ _ x y => .cons x y) vs ds r

theorem RdL.consV {G : Gh} {h : Heap} {v : Value} {vs : List Value} {d : D} {ds : List D} (r : RdL G h (v :: vs) (d :: ds)) : Rd G h v d ∧ RdL G h vs ds := by cases r; exact ⟨‹_›, ‹_›⟩
theorem RdL.length {G : Gh} {h : Heap} : ∀ {ds : List D} {vs : List Value}, RdL G h vs ds → vs.length = ds.length
  | [], _, r => r.nilK rfl
  | _ :: _, _, r => r.consK fun _ _ _ y => congrArg (· + 1) (RdL.length y)
theorem RdL.size {G : Gh} {h : Heap} {vs : Array Value} {ds : List D} (r : RdL G h vs.toList ds) : vs.size = ds.length := by rw [← r.length, Array.length_toList]
theorem RdL.get {G : Gh} {h : Heap} : ∀ {ds : List D} {vs : List Value}, RdL G h vs ds → ∀ {i : Nat} {d : D}, ds[i]? = some d → ∃ v, vs[i]? = some v ∧ Rd G h v d
  | [], _, _, _, _, e => nsd e
  | _ :: _, _, r, 0, _, e => r.consK fun v _ x _ => ⟨v, rfl, Option.some.inj e ▸ x⟩
  | _ :: _, _, r, i + 1, _, e => r.consK fun _ _ _ y => RdL.get y (i := i) e
theorem RdL.getv {G : Gh} {h : Heap} : ∀ {ds : List D} {vs : List Value}, RdL G h vs ds → ∀ {i : Nat} {v : Value}, vs[i]? = some v → ∃ d, ds[i]? = some d ∧ Rd G h v d
  | [], _, r, _, _, e => nsd (r.nilK (P := fun vs => (none : Option Value) = vs[_]?) rfl |>.trans e)
  | d :: _, _, r, 0, v, e => r.consK (P := fun vs => vs[0]? = some v → _) (fun w _ x _ e => ⟨d, rfl, Option.some.inj (List.getElem?_cons_zero.symm.trans e) ▸ x⟩) e
  | _ :: _, _, r, i + 1, v, e => r.consK (P := fun vs => vs[i + 1]? = some v → _) (fun _ _ _ y e => RdL.getv y (i := i) e) e
theorem RdL.app {G : Gh} {h : Heap} {vs' : List Value} {ds' : List D} (z : RdL G h vs' ds') : ∀ {ds : List D} {vs : List Value}, RdL G h vs ds → RdL G h (vs ++ vs') (ds ++ ds')
  | [], _, r => r.nilK z
  | _ :: _, _, r => r.consK fun _ _ x y => .cons x (RdL.app z y)
theorem RdL.append {G : Gh} {h : Heap} {vs vs' : List Value} {ds ds' : List D} (x : RdL G h vs ds) (z : RdL G h vs' ds') : RdL G h (vs ++ vs') (ds ++ ds') := RdL.app z x
theorem RdL.snoc {G : Gh} {h : Heap} {vs : List Value} {ds : List D} {v : Value} {d : D} (x : RdL G h vs ds) (y : Rd G h v d) : RdL G h (vs ++ [v]) (ds ++ [d]) := RdL.app (.cons y .nil) x

/-- what stands at the law's start -/
structure Bs where
  prog : Program
  w : World
  h0 : Heap
  tb : List Addr
  mg : Str → Option Value
  mb : Str → Option Value
  mc : Str → Option Value
  hg : h0.Ns mainGlobals mg
  hb : h0.Ns builtinsNs mb
  hc : h0.Ns cStatics mc
  lim : mc "sys.recursionlimit" = none
  shr : mc sharingNotToldKey = none
  low : ∀ a ∈ tb, a ≠ mainGlobals ∧ a ≠ builtinsNs ∧ a ≠ cStatics
  dn : Addr → Pos × Str
  tab : TQ tb dn h0

noncomputable abbrev Bs.M (B : Bs) : Model := model B.prog B.w

/-- the heap as it stands -/
structure St (B : Bs) (G : Gh) (s : Shared) : Prop where
  kp : Kp B.tb B.h0 s.heap
  tg : TQ B.tb B.dn s.heap
  sub : ∀ a ∈ B.tb, a ∈ G.O
  lt : ∀ a ∈ G.O, a < s.heap.objs.size
  tk : G.n ≤ s.toks
  pos : 0 < G.n

/-- from state to state: what is done by one who may turn W (and grow the code tables) -/
structure Kw (B : Bs) (W : List Addr) (G : Gh) (s : Shared) (G' : Gh) (s' : Shared) : Prop where
  same : ∃ h' tk, s' = { s with heap := h', toks := tk }
  kp : Kp (W ++ B.tb) s.heap s'.heap
  tg : Tg B.tb B.dn s.heap s'.heap
  cd : Cd s.heap s'.heap
  sz : s.heap.objs.size ≤ s'.heap.objs.size
  o : G'.O = G.O
  n : G.n ≤ G'.n
  τ : ∀ t, t < G.n → G'.τ t = G.τ t
  tk : G'.n ≤ s'.toks
/-- what an expression does -/
noncomputable abbrev Ke (B : Bs) (G : Gh) (s : Shared) (G' : Gh) (s' : Shared) : Prop := Kw B [] G s G' s'

theorem Kw.refl {B : Bs} {W : List Addr} {G : Gh} {s : Shared} (x : St B G s) : Kw B W G s G s := ⟨⟨_, _, rfl⟩, Kp.refl _ _, Tg.refl _ _, Cd.refl _, Nat.le_refl _, rfl, Nat.le_refl _, fun _ _ => rfl, x.tk⟩
theorem Kw.trans {B : Bs} {W : List Addr} {G G' G'' : Gh} {s s' s'' : Shared} (a : Kw B W G s G' s') (b : Kw B W G' s' G'' s'') : Kw B W G s G'' s'' := by
  refine ⟨?_, a.kp.trans b.kp, a.tg.trans b.tg, a.cd.trans b.cd, Nat.le_trans a.sz b.sz, b.o.trans a.o, Nat.le_trans a.n b.n, fun t ht => (b.τ t (Nat.lt_of_lt_of_le ht a.n)).trans (a.τ t ht), b.tk⟩
  obtain ⟨h1, t1, e1⟩ := a.same
  obtain ⟨h2, t2, e2⟩ := b.same
  exact ⟨h2, t2, by rw [e2, e1]⟩
theorem Kw.mono {B : Bs} {W W' : List Addr} {G G' : Gh} {s s' : Shared} (a : Kw B W G s G' s') (h : ∀ b ∈ W, b ∈ W') : Kw B W' G s G' s' :=
  ⟨a.same, a.kp.mono fun b hb => (List.mem_append.mp hb).elim (fun x => List.mem_append_left _ (h b x)) fun x => List.mem_append_right _ x, a.tg, a.cd, a.sz, a.o, a.n, a.τ, a.tk⟩
theorem Kw.of_ke {B : Bs} {W : List Addr} {G G' : Gh} {s s' : Shared} (a : Ke B G s G' s') : Kw B W G s G' s' := Kw.mono a fun _ h => nomatch h
theorem Ke.refl {B : Bs} {G : Gh} {s : Shared} (x : St B G s) : Ke B G s G s := Kw.refl x
theorem Ke.trans {B : Bs} {G G' G'' : Gh} {s s' s'' : Shared} (a : Ke B G s G' s') (b : Ke B G' s' G'' s'') : Ke B G s G'' s'' := Kw.trans a b
theorem Ke.of {B : Bs} {G : Gh} {s : Shared} (x : St B G s) {h' : Heap} {tk : Nat} (k : ∀ b o, s.heap.get? b = some o → h'.get? b = some o) (ht : s.toks ≤ tk) (hz : s.heap.objs.size ≤ h'.objs.size) : Ke B G s G { s with heap := h', toks := tk } :=
  ⟨⟨_, _, rfl⟩, Kp.all k, Tg.all k, Cd.all k, hz, rfl, Nat.le_refl _, fun _ _ => rfl, Nat.le_trans x.tk ht⟩
theorem Ke.tok {B : Bs} {G : Gh} {s : Shared} (x : St B G s) {t : Nat} (ht : s.toks ≤ t) : Ke B G s G { s with toks := t } :=
  ⟨⟨_, _, rfl⟩, Kp.refl _ _, Tg.refl _ _, Cd.refl _, Nat.le_refl _, rfl, Nat.le_refl _, fun _ _ => rfl, Nat.le_trans x.tk ht⟩
theorem Ke.push {B : Bs} {G : Gh} {s : Shared} (x : St B G s) (o : Obj) {t : Nat} (ht : s.toks ≤ t) : Ke B G s G { s with heap := s.heap.push o, toks := t } :=
  .of x (fun _ _ e => Heap.get?_push_of_some o e) ht (by rw [Heap.size_push]; exact Nat.le_succ _)
/-- one object is turned -/
theorem Kw.one {B : Bs} {W : List Addr} {G : Gh} {s : Shared} (x : St B G s) {a : Addr} {h' : Heap} {tk : Nat} (ha : a ∈ W) (hb : a ∉ B.tb) (hs : Heap.ExtBut a s.heap h') (hz : s.heap.objs.size ≤ h'.objs.size) (ht : s.toks ≤ tk) (hn : NC s.heap a) :
    Kw B W G s G { s with heap := h', toks := tk } :=
  ⟨⟨_, _, rfl⟩, Kp.ext hs (List.mem_append_left _ ha), Tg.keep (fun P hP o e => hs P o (fun q => hb (q ▸ hP)) e) (Cd.ext hs hn), Cd.ext hs hn, hz, rfl, Nat.le_refl _, fun _ _ => rfl, Nat.le_trans x.tk ht⟩
theorem Kw.same1 {B : Bs} {W : List Addr} {G : Gh} {s : Shared} (x : St B G s) {a : Addr} {h' : Heap} {tk : Nat} (ha : a ∈ W) (hb : a ∉ B.tb) (hs : Heap.SameBut a s.heap h') (ht : s.toks ≤ tk) (hn : NC s.heap a) :
    Kw B W G s G { s with heap := h', toks := tk } := .one x ha hb hs.extBut (Nat.le_of_eq hs.1.symm) ht hn
noncomputable def Gh.put (G : Gh) (t : Tok) (x : UInt64) : Gh := { G with τ := fun u => if u = t then x else G.τ u, n := t + 1 }
theorem Ke.flt {B : Bs} {G : Gh} {s : Shared} (x : St B G s) (y : UInt64) : Ke B G s (G.put s.toks y) { s with toks := s.toks + 1 } :=
  ⟨⟨_, _, rfl⟩, Kp.refl _ _, Tg.refl _ _, Cd.refl _, Nat.le_refl _, rfl, Nat.le_succ_of_le x.tk, fun t ht => if_neg (Nat.ne_of_lt (Nat.lt_of_lt_of_le ht x.tk)), Nat.le_refl _⟩

theorem Kw.up {B : Bs} {W : List Addr} {G G' : Gh} {s s' : Shared} (k : Kw B W G s G' s') (x : St B G s) (hW : ∀ a ∈ W, a ∈ G.O) : Up G s.heap G' s'.heap :=
  ⟨k.kp.mono fun b hb => (List.mem_append.mp hb).elim (hW b) (x.sub b), fun a ha => .inl (k.o ▸ ha), k.n, k.τ⟩
theorem Ke.up {B : Bs} {G G' : Gh} {s s' : Shared} (k : Ke B G s G' s') (x : St B G s) : Up G s.heap G' s'.heap := Kw.up k x fun _ h => nomatch h
theorem St.kw {B : Bs} {W : List Addr} {G G' : Gh} {s s' : Shared} (x : St B G s) (k : Kw B W G s G' s') (hW : ∀ a ∈ W, B.h0.get? a = none) : St B G' s' := by
  refine ⟨fun b o hb e => ?_, k.tg x.tg, by rw [k.o]; exact x.sub, fun a ha => ?_, k.tk, Nat.lt_of_lt_of_le x.pos k.n⟩
  · refine k.kp b o (fun m => ?_) (x.kp b o hb e)
    rcases List.mem_append.mp m with y | y
    · rw [hW b y] at e; cases e
    · exact hb y
  · rw [k.o] at ha
    exact Nat.lt_of_lt_of_le (x.lt a ha) k.sz
theorem St.ke {B : Bs} {G G' : Gh} {s s' : Shared} (x : St B G s) (k : Ke B G s G' s') : St B G' s' := x.kw k fun _ h => nomatch h
theorem Rd.ke {B : Bs} {G G' : Gh} {s s' : Shared} {v : Value} {d : D} (r : Rd G s.heap v d) (x : St B G s) (k : Ke B G s G' s') : Rd G' s'.heap v d := r.up (k.up x)
theorem RdL.ke {B : Bs} {G G' : Gh} {s s' : Shared} {v : List Value} {d : List D} (r : RdL G s.heap v d) (x : St B G s) (k : Ke B G s G' s') : RdL G' s'.heap v d := r.up (k.up x)
theorem St.fresh {B : Bs} {G : Gh} {s : Shared} (x : St B G s) {a : Addr} (ha : s.heap.objs.size ≤ a) : a ∉ G.O := fun m => Nat.not_lt.mpr ha (x.lt a m)
theorem get_size_none (h : Heap) : h.get? h.objs.size = none := by
  cases e : h.get? h.objs.size with
  | none => rfl
  | some o => exact absurd (Heap.lt_size e) (Nat.lt_irrefl _)
theorem Kp.ns {X : List Addr} {h h' : Heap} {a : Addr} {m : Str → Option Value} (k : Kp X h h') (ha : a ∉ X) (n : h.Ns a m) : h'.Ns a m :=
  let ⟨o, es, ep, e, r⟩ := n; ⟨o, es, ep, k a o ha e, r⟩
theorem Kp.cell {X : List Addr} {h h' : Heap} {a : Addr} {v : Option Value} (k : Kp X h h') (ha : a ∉ X) (n : h.IsCell a v) : h'.IsCell a v :=
  let ⟨o, e, r⟩ := n; ⟨o, k a o ha e, r⟩
theorem St.g {B : Bs} {G : Gh} {s : Shared} (x : St B G s) : s.heap.Ns mainGlobals B.mg := x.kp.ns (fun m => (B.low _ m).1 rfl) B.hg
theorem St.b {B : Bs} {G : Gh} {s : Shared} (x : St B G s) : s.heap.Ns builtinsNs B.mb := x.kp.ns (fun m => (B.low _ m).2.1 rfl) B.hb
theorem St.c {B : Bs} {G : Gh} {s : Shared} (x : St B G s) : s.heap.Ns cStatics B.mc := x.kp.ns (fun m => (B.low _ m).2.2 rfl) B.hc
theorem St.lim {B : Bs} {G : Gh} {s : Shared} (x : St B G s) : s.heap.NoLimit := ⟨_, x.c, B.lim⟩
theorem St.nb {B : Bs} {G : Gh} {s : Shared} (x : St B G s) : NoneBooked s.heap := ⟨_, x.c, B.shr⟩

/-- the library's wpAny, sealed (else each use is unfolded by the elaborator) -/
structure WP {α : Type} (B : Bs) (A : Around) (t : Sem α) (Q : α → Shared → Prop) (E : Value → Shared → Prop) (s : Shared) : Prop where
  w : wpAny B.M A t Q E s
structure CP (B : Bs) (A : Around) (c : Code) (R : Result → Shared → Prop) (s : Shared) : Prop where
  w : codeAny B.M A c R s

section
variable {α β : Type} {B : Bs} {A : Around} {E E' : Value → Shared → Prop} {s : Shared}
theorem WP.mono {t : Sem α} {Q Q' : α → Shared → Prop} (h : WP B A t Q E s) (hQ : ∀ a s, Q a s → Q' a s) (hE : ∀ e s, E e s → E' e s) : WP B A t Q' E' s :=
  ⟨@wpAny_mono _ _ _ _ _ _ _ _ _ h.w hQ hE⟩
theorem WP.post {t : Sem α} {Q Q' : α → Shared → Prop} (h : WP B A t Q E s) (hQ : ∀ a s, Q a s → Q' a s) : WP B A t Q' E s := h.mono hQ fun _ _ x => x
theorem WP.pure {a : α} {Q : α → Shared → Prop} (h : Q a s) : WP B A (Pure.pure a) Q E s := ⟨@wpAny_pure _ _ _ _ _ _ _ h⟩
theorem WP.bind {m : Sem α} {f : α → Sem β} {Q : β → Shared → Prop} (h : WP B A m (fun a s' => WP B A (f a) Q E s') E s) : WP B A (m >>= f) Q E s :=
  ⟨@wpAny_bind _ _ _ _ _ _ _ _ _ (@wpAny_mono _ _ _ _ _ _ _ _ _ h.w (fun _ _ x => x.w) fun _ _ x => x)⟩
theorem WP.un {m : Sem α} {f : α → Shared → Sem β} {Q : β → Shared → Prop} (h : WP B A m (fun a s' => WP B A (f a s') Q E s') E s) : wpAny B.M A m (fun a s' => wpAny B.M A (f a s') Q E s') E s :=
  @wpAny_mono _ _ _ _ _ _ _ _ _ h.w (fun _ _ x => x.w) fun _ _ x => x
theorem WP.standAt {pos : Pos} {Q : Unit → Shared → Prop} (h : Q () s) : WP B A (standAt pos) Q E s := ⟨@wpAny_standAt _ _ _ _ _ _ h⟩
theorem WP.rule {tag : String} {Q : Unit → Shared → Prop} (h : Q () s) : WP B A (PySem.rule tag) Q E s := ⟨@wpAny_rule _ _ _ _ _ _ h⟩
theorem WP.holding {vs : List Value} {m : Sem α} {Q : α → Shared → Prop} (h : WP B A m Q E s) : WP B A (holding vs m) Q E s := ⟨@wpAny_holding _ _ _ _ _ _ _ _ h.w⟩
theorem WP.keep {vs : List Value} {m : Sem α} {Q : α → Shared → Prop} (h : WP B A m Q E s) : WP B A (m.keep vs) Q E s := ⟨@Calls.wpAny_keep _ _ _ _ _ _ _ _ h.w⟩
theorem WP.point {Q : Unit → Shared → Prop} (h : Q () s) : WP B A point Q E s := ⟨@wpAny_point _ _ _ _ _ h⟩
theorem WP.of_eq {t t' : Sem α} {Q : α → Shared → Prop} (e : t = t') (h : WP B A t' Q E s) : WP B A t Q E s := e ▸ h
theorem WP.in1 {t : Sem α} {Q : α → Shared → Prop} (h : WP B A.in1 t Q E s) : WP B A t Q E s := ⟨@wpAny_of_in1 _ _ _ _ _ _ _ h.w⟩
/-- the tokens never fall, the heap never shrinks -/
theorem WP.mt {t : Sem α} {Q : α → Shared → Prop} (h : WP B A t (fun a s' => s.toks ≤ s'.toks → s.heap.objs.size ≤ s'.heap.objs.size → Q a s') E s) : WP B A t Q E s :=
  ⟨fun Γ p hΓ => by
    have h1 := Sem.wp_toks B.M Γ s.toks t _ _ p s (Nat.le_refl _) (h.w Γ p hΓ)
    have h2 := wp_size B.M Γ s.heap.objs.size t _ _ p s (Nat.le_refl _) h1
    exact Sem.wp_mono B.M Γ t (fun _ _ _ x => x.2.2 x.2.1 x.1) (fun _ _ _ x => x.2) p s h2⟩
theorem CP.mono {c : Code} {R R' : Result → Shared → Prop} (h : CP B A c R s) (hR : ∀ r s, R r s → R' r s) : CP B A c R' s := ⟨@codeAny_mono _ _ _ _ _ _ h.w hR⟩
end

/-- what is to be shown behind an expression that stands for d -/
noncomputable abbrev Post (B : Bs) (G : Gh) (s : Shared) (d : D) (Q : Value → Shared → Prop) : Prop := ∀ v G' s', Ke B G s G' s' → Rd G' s'.heap v d → Q v s'
section
variable {B : Bs} {G : Gh} {s : Shared} {d : D} {Q : Value → Shared → Prop}
theorem Post.of {x : D} (hQ : Post B G s d Q) (h : some x = some d) : Post B G s x Q := by cases h; exact hQ
theorem Post.val (hQ : Post B G s d Q) (st : St B G s) {v : Value} (r : Rd G s.heap v d) : Q v s := hQ v G s (.refl st) r
theorem Post.tok (hQ : Post B G s d Q) (st : St B G s) {v : Value} (r : Rd G s.heap v d) {t : Nat} (ht : s.toks ≤ t) : Q v { s with toks := t } := hQ v G _ (.tok st ht) r
theorem Post.tok1 (hQ : Post B G s d Q) (st : St B G s) {v : Value} (r : Rd G s.heap v d) : Q v { s with toks := s.toks + 1 } := hQ.tok st r (Nat.le_succ _)
theorem Post.flt {x : UInt64} (hQ : Post B G s (.flt x) Q) (st : St B G s) : Q (.float x s.toks) { s with toks := s.toks + 1 } :=
  hQ _ _ _ (.flt st x) (.flt (Nat.lt_of_lt_of_le st.pos st.tk) (Nat.lt_succ_self _) (if_pos rfl))
theorem Post.after {G' : Gh} {s' : Shared} (hQ : Post B G s d Q) (k : Ke B G s G' s') : Post B G' s' d Q := fun v G'' s'' k' r => hQ v G'' s'' (k.trans k') r
/-- a new list, a new tuple -/
theorem Post.newL {items : Array Value} {n : Nat} {ds : List D} (hQ : Post B G s (.lst ds) Q) (st : St B G s) (r : RdL G s.heap items.toList ds) :
    Q (.ref s.heap.objs.size) { s with heap := s.heap.push { cls := .type "list", data := .seq items n } } :=
  hQ _ _ _ (Ke.push st _ (Nat.le_refl _)) (.lst (st.fresh (Nat.le_refl _)) (Heap.get?_push_size _ rfl) (r.ke st (Ke.push st _ (Nat.le_refl _))))
theorem Post.newT {items : Array Value} {n : Nat} {ds : List D} (hQ : Post B G s (.tup ds) Q) (st : St B G s) (r : RdL G s.heap items.toList ds) :
    Q (.ref s.heap.objs.size) { s with heap := s.heap.push { cls := .type "tuple", data := .seq items n } } :=
  hQ _ _ _ (Ke.push st _ (Nat.le_refl _)) (.tup (st.fresh (Nat.le_refl _)) (Heap.get?_push_size _ rfl) (r.ke st (Ke.push st _ (Nat.le_refl _))))
end

structure Room (m : Nat) (A : Around) : Prop where
  hd : A.handled = none
  dep : A.depth + m < 900
  un : A.units + 8 * m < 9000
theorem Room.less {m n : Nat} {A : Around} (h : Room m A) (hn : n ≤ m) : Room n A := ⟨h.hd, by have := h.dep; omega, by have := h.un; omega⟩
theorem Room.in1 {m : Nat} {A : Around} (h : Room (m + 1) A) : Room m A.in1 := ⟨h.hd, by have := h.dep; show A.depth + m < 900; omega, by have := h.un; show A.units + 1 + 8 * m < 9000; omega⟩
theorem Room.deeper {m : Nat} {A : Around} (env : Env) (h : Room (m + 1) A) : Room m (A.deeper env) := ⟨h.hd, by have := h.dep; show A.depth + 1 + m < 900; omega, by have := h.un; show A.units + 3 + 8 * m < 9000; omega⟩
theorem Room.line {m : Nat} {A : Around} (h : Room m A) : A.units + 100 < cLine := by have := h.un; show A.units + 100 < 9900; omega
theorem Room.depth {m : Nat} {A : Around} (h : Room m A) : A.depth < recursionLimit := by have := h.dep; show A.depth < 1000; omega

end Mine

end
section
open PySem PySem.W PyProof.Rows
set_option Elab.async false
namespace Mine

noncomputable def intOp : Operator → Int → Int → Option D
  | .Add, a, b => some (.int (a + b))
  | .Sub, a, b => some (.int (a - b))
  | .Mult, a, b => if (decide (Builtin.Int.intBits a > shortFactorBits) && decide (Builtin.Int.intBits b > shortFactorBits) && Builtin.Int.intTooBig (Builtin.Int.intBits a + Builtin.Int.intBits b)) = true then none else some (.int (a * b))
  | .FloorDiv, a, b => if b = 0 ∨ Builtin.divisionGoesByPylong a b = true then none else some (.int (a.fdiv b))
  | .Mod, a, b => if b = 0 then none else some (.int (a.fmod b))
  | .Pow, a, n => if 0 ≤ n ∧ (Builtin.Int.intBits a : Int) * n ≤ 2 ^ 27 then some (.int (a ^ n.toNat)) else none
  | .LShift, a, n => if 0 ≤ n ∧ (Builtin.Int.intBits a : Int) + n ≤ 2 ^ 27 then some (.int (a * 2 ^ n.toNat)) else none
  | .RShift, a, n => if 0 ≤ n then some (.int (a.fdiv (2 ^ n.toNat))) else none
  | .BitAnd, a, b => some (.int (Builtin.bitAnd a b))
  | .BitOr, a, b => some (.int (Builtin.bitOr a b))
  | .BitXor, a, b => some (.int (Builtin.bitXor a b))
  | .Div, a, b => if b = 0 ∨ Float64.isInf (Float64.ofFrac (decide (a < 0) != decide (b < 0)) a.natAbs b.natAbs) = true then none else some (.flt (Float64.ofFrac (decide (a < 0) != decide (b < 0)) a.natAbs b.natAbs))
  | .MatMult, _, _ => none
noncomputable def fltOp : Operator → UInt64 → UInt64 → Option D
  | .Add, a, b => some (.flt (Float64.add a b))
  | .Sub, a, b => some (.flt (Float64.sub a b))
  | .Mult, a, b => some (.flt (Float64.mul a b))
  | .Div, a, b => if Float64.isZero b = true then none else some (.flt (Float64.div a b))
  | .Mod, a, b => if Float64.isZero b = true then none else some (.flt (Float64.divmod a b).snd)
  | _, _, _ => none
noncomputable def fltOpI (op : Operator) (x : UInt64) (j : Int) : Option D := if Float64.isInf (Float64.ofInt j) = true then none else fltOp op x (Float64.ofInt j)
noncomputable def intOpF (op : Operator) (i : Int) (y : UInt64) : Option D := if Float64.isInf (Float64.ofInt i) = true then none else fltOp op (Float64.ofInt i) y
noncomputable def strOp (op : Operator) (x y : Str) : Option D := match op with
  | .Add => if x.length + y.length ≤ sizeLine then some (.str (x ++ y)) else none
  | _ => none
noncomputable def lstOp (op : Operator) (xs ys : List D) : Option D := match op with
  | .Add => if xs.length + ys.length ≤ sizeLine then some (.lst (xs ++ ys)) else none
  | _ => none
noncomputable def lstMul (op : Operator) (xs : List D) (n : Int) : Option D := match op with
  | .Mult => if -(2 ^ 63 : Int) ≤ n ∧ n < 2 ^ 63 ∧ xs.length * n.toNat ≤ 2 ^ 24 then some (.lst (List.replicate n.toNat xs).flatten) else none
  | _ => none
noncomputable def binop (op : Operator) (a b : D) : Option D := match intOf1 b with
  | some j => match intOf1 a with
    | some i => intOp op i j
    | none => match fltOf1 a with
      | some x => fltOpI op x j
      | none => match lstOf1 a with
        | some xs => lstMul op xs j
        | none => none
  | none => match fltOf1 b with
    | some y => match fltOf1 a with
      | some x => fltOp op x y
      | none => match intOf1 a with
        | some i => intOpF op i y
        | none => none
    | none => match both (strOf1 a) (strOf1 b) with
      | some p => strOp op p.1 p.2
      | none => match both (lstOf1 a) (lstOf1 b) with
        | some p => lstOp op p.1 p.2
        | none => none

section
variable {B : Bs} {A : Around} {G : Gh} {s : Shared} {Q : Value → Shared → Prop} {E : Value → Shared → Prop}

theorem intOp_ok {op : Operator} {i j : Int} {t u : Tok} {d : D} (st : St B G s) (h : intOp op i j = some d)
    (hQ : Post B G s d Q) : WP B A (binaryOp op (.int i t) (.int j u)) Q E s := by
  cases op <;> (unfold intOp at h; dsimp only at h)
  case Add => exact ⟨@PyProof.Rows.add_int _ _ _ _ _ _ _ _ _ _ ((hQ.of h).tok1 st (.int _ _))⟩
  case Sub => exact ⟨@PyProof.Rows.sub_int' _ _ _ _ _ _ _ _ _ _ ((hQ.of h).tok1 st (.int _ _))⟩
  case Mult =>
    exact ifF h fun hm h => ⟨@PyProof.Rows.mul_int _ _ _ _ _ _ _ _ _ _ ((hQ.of h).tok1 st (.int _ _)) hm⟩
  case MatMult => exact nsd h
  case Div =>
    refine ifF h fun hc h => ?_
    rw [not_or] at hc
    exact ⟨@AutoIntOps.truediv_2 _ _ _ _ _ _ _ _ _ _ (by simpa using hc.1) hc.2 ((hQ.of h).flt st)⟩
  case Mod =>
    exact ifF h fun hc h => ⟨@PyProof.Rows.mod_int' _ _ _ _ _ _ _ _ _ _ hc ((hQ.of h).tok1 st (.int _ _))⟩
  case Pow =>
    exact ifT h fun hc h => ⟨@PyProof.Rows.pow_int _ _ _ _ _ _ _ _ _ _ hc.1 hc.2 ((hQ.of h).tok1 st (.int _ _))⟩
  case LShift =>
    exact ifT h fun hc h => ⟨@PyProof.Rows.lshift_int _ _ _ _ _ _ _ _ _ _ hc.1 hc.2 ((hQ.of h).tok1 st (.int _ _))⟩
  case RShift =>
    exact ifT h fun hc h => ⟨@PyProof.Rows.rshift_int _ _ _ _ _ _ _ _ _ _ hc ((hQ.of h).tok1 st (.int _ _))⟩
  case BitOr => exact ⟨@PyProof.Rows.or_int _ _ _ _ _ _ _ _ _ _ ((hQ.of h).tok1 st (.int _ _))⟩
  case BitXor => exact ⟨@PyProof.Rows.xor_int _ _ _ _ _ _ _ _ _ _ ((hQ.of h).tok1 st (.int _ _))⟩
  case BitAnd => exact ⟨@PyProof.Rows.and_int _ _ _ _ _ _ _ _ _ _ ((hQ.of h).tok1 st (.int _ _))⟩
  case FloorDiv =>
    refine ifF h fun hc h => ?_
    rw [not_or] at hc
    exact ⟨@PyProof.Rows.floordiv_int _ _ _ _ _ _ _ _ _ _ hc.1 ((hQ.of h).tok1 st (.int _ _)) (.inl (by simpa using hc.2))⟩

theorem fltOp_ok {op : Operator} {x y : UInt64} {t u : Tok} {d : D} (st : St B G s) (h : fltOp op x y = some d)
    (hQ : Post B G s d Q) : WP B A (binaryOp op (.float x t) (.float y u)) Q E s := by
  cases op <;> first | exact nsd h | (unfold fltOp at h; dsimp only at h)
  case Add => exact ⟨@PyProof.Rows.add_float _ _ _ _ _ _ _ _ _ _ ((hQ.of h).flt st)⟩
  case Sub => exact ⟨@PyProof.Rows.sub_float _ _ _ _ _ _ _ _ _ _ ((hQ.of h).flt st)⟩
  case Mult => exact ⟨@PyProof.Rows.mul_float _ _ _ _ _ _ _ _ _ _ ((hQ.of h).flt st)⟩
  case Div =>
    exact ifF h fun hc h => ⟨@AutoFloatOps.truediv_1 _ _ _ _ _ _ _ _ _ _ hc ((hQ.of h).flt st)⟩
  case Mod =>
    exact ifF h fun hc h => ⟨@AutoFloatOps.mod_1 _ _ _ _ _ _ _ _ _ _ hc ((hQ.of h).flt st)⟩

theorem fiOp_ok {op : Operator} {x : UInt64} {j : Int} {t u : Tok} {d : D} (st : St B G s) (hi : ¬ Float64.isInf (Float64.ofInt j) = true) (h : fltOp op x (Float64.ofInt j) = some d)
    (hQ : Post B G s d Q) : WP B A (binaryOp op (.float x t) (.int j u)) Q E s := by
  cases op <;> first | exact nsd h | (unfold fltOp at h; dsimp only at h)
  case Add => exact ⟨@AutoFloatOps.add_fi_1 _ _ _ _ _ _ _ _ _ _ hi ((hQ.of h).flt st)⟩
  case Sub => exact ⟨@AutoFloatOps.sub_fi_1 _ _ _ _ _ _ _ _ _ _ hi ((hQ.of h).flt st)⟩
  case Mult => exact ⟨@AutoFloatOps.mul_fi_1 _ _ _ _ _ _ _ _ _ _ hi ((hQ.of h).flt st)⟩
  case Div =>
    exact ifF h fun hc h => ⟨@AutoFloatOps.truediv_fi_2 _ _ _ _ _ _ _ _ _ _ hi hc ((hQ.of h).flt st)⟩
  case Mod =>
    exact ifF h fun hc h => ⟨@AutoFloatOps.mod_fi_2 _ _ _ _ _ _ _ _ _ _ hi hc ((hQ.of h).flt st)⟩

theorem ifOp_ok {op : Operator} {y : UInt64} {i : Int} {t u : Tok} {d : D} (st : St B G s) (hi : ¬ Float64.isInf (Float64.ofInt i) = true) (h : fltOp op (Float64.ofInt i) y = some d)
    (hQ : Post B G s d Q) : WP B A (binaryOp op (.int i u) (.float y t)) Q E s := by
  cases op <;> first | exact nsd h | (unfold fltOp at h; dsimp only at h)
  case Add => exact ⟨@AutoFloatOps.add_if_1 _ _ _ _ _ _ _ _ _ _ hi ((hQ.of h).flt st)⟩
  case Sub => exact ⟨@AutoFloatOps.sub_if_1 _ _ _ _ _ _ _ _ _ _ hi ((hQ.of h).flt st)⟩
  case Mult => exact ⟨@AutoFloatOps.mul_if_1 _ _ _ _ _ _ _ _ _ _ hi ((hQ.of h).flt st)⟩
  case Div =>
    exact ifF h fun hc h => ⟨@AutoFloatOps.truediv_if_2 _ _ _ _ _ _ _ _ _ _ hi hc ((hQ.of h).flt st)⟩
  case Mod =>
    exact ifF h fun hc h => ⟨@AutoFloatOps.mod_if_2 _ _ _ _ _ _ _ _ _ _ hi hc ((hQ.of h).flt st)⟩

theorem RdL.flat {G : Gh} {h : Heap} {vs : List Value} {ds : List D} (r : RdL G h vs ds) : ∀ n : Nat, RdL G h (List.replicate n vs).flatten (List.replicate n ds).flatten
  | 0 => .nil
  | n + 1 => by rw [List.replicate_succ, List.replicate_succ, List.flatten_cons, List.flatten_cons]; exact r.append (RdL.flat r n)

theorem foldl_arr (l : List (Array Value)) (acc : Array Value) : (List.foldl (fun x1 x2 => x1 ++ x2) acc l).toList = acc.toList ++ (l.map (·.toList)).flatten := by
  induction l generalizing acc with
  | nil => simp
  | cons x l ih => rw [List.foldl_cons, ih]; simp

theorem addStr_ok {x y : Str} {t u : Tok} {d : D} (st : St B G s) (h : strOp .Add x y = some d)
    (hQ : Post B G s d Q) : WP B A (binaryOp .Add (.str x t) (.str y u)) Q E s := by
  exact ifT h fun hs h => WP.mt ⟨@PyProof.Rows.add_str _ _ _ _ _ _ _ _ _ _ (fun t' tk ht _ => (hQ.of h).tok st (.str _ _) ht) hs⟩
theorem addLst_ok {a1 a2 : Addr} {i1 i2 : Array Value} {n1 n2 : Nat} {d1 d2 : List D} {d : D} (st : St B G s) (h1 : LstAt s.heap a1 i1 n1) (h2 : LstAt s.heap a2 i2 n2)
    (r1 : RdL G s.heap i1.toList d1) (r2 : RdL G s.heap i2.toList d2) (h : lstOp .Add d1 d2 = some d)
    (hQ : Post B G s d Q) : WP B A (binaryOp .Add (.ref a1) (.ref a2)) Q E s := by
  refine ifT h fun hs h => ?_
  exact ⟨@P.add_list _ _ _ _ _ _ _ _ _ _ _ _ h1 h2 ((hQ.of h).newL st (by rw [Array.toList_append]; exact r1.append r2)) (by rw [r1.size, r2.size]; exact hs)⟩
theorem mulLst_ok {a1 : Addr} {i1 : Array Value} {n1 : Nat} {d1 : List D} {i : Int} {t : Tok} {d : D} (st : St B G s) (h1 : LstAt s.heap a1 i1 n1)
    (r1 : RdL G s.heap i1.toList d1) (h : lstMul .Mult d1 i = some d)
    (hQ : Post B G s d Q) : WP B A (binaryOp .Mult (.ref a1) (.int i t)) Q E s := by
  unfold lstMul at h; dsimp only at h
  by_cases hs : -(2 ^ 63 : Int) ≤ i ∧ i < 2 ^ 63 ∧ d1.length * i.toNat ≤ 2 ^ 24
  · rw [if_pos hs] at h; cases h
    have e1 : i1.size = d1.length := by rw [← r1.length, Array.length_toList]
    refine ⟨wpAny_binaryOp_repeat_ref (T := "list") (U := "int") (by decide) ⟨_, h1, rfl⟩ (fun s' => typeIs_int s' i t) noFill_list_mul F.fills_int_mul F.slot_int_rmul repeat_list F.slot_int_index.lookup
      (call_meets F.slot_int_rmul (typeIs_int s i t) F.entry_int_rmul (F.args_int_rmul_2 _ _) (int___rmul___int_list i t a1 i1 n1)
        ⟨h1, rfl, ⟨_, h1, rfl⟩, call_meets F.slot_list_mul ⟨_, h1, rfl⟩ F.entry_list_mul (F.args_list_mul_2 _ _)
          (AutoListH.list___mul___list_int_3 a1 i1 n1 i t (by simp [Builtin.List.listFitsIndex]; omega) (by rw [e1]; omega) (by rw [e1]; simp [Builtin.List.listTooLong, sizeLine]; omega))
          ⟨h1, hQ.newL st ?_⟩⟩)⟩
    rw [foldl_arr, List.map_replicate]
    by_cases hm : i1.isEmpty = true
    · have hn : d1 = [] := by
        have : i1.size = 0 := by simpa using hm
        rw [e1] at this; exact List.length_eq_zero_iff.mp this
      subst hn
      simp only [hm, if_true, List.replicate_zero, List.flatten_nil]
      have : (List.replicate i.toNat ([] : List D)).flatten = [] := by simp
      rw [this]; exact .nil
    · simp only [hm]
      exact r1.flat _
  · rw [if_neg hs] at h; cases h

theorem binop_ok {op : Operator} {x y : Value} {a b d : D} (st : St B G s) (hx : Rd G s.heap x a) (hy : Rd G s.heap y b) (h : binop op a b = some d)
    (hQ : Post B G s d Q) : WP B A (binaryOp op x y) Q E s := by
  unfold binop at h
  split at h
  · rename_i hb
    rw [intOf1_eq hb] at hy
    refine hy.intK fun u => ?_
    split at h
    · rename_i ha
      rw [intOf1_eq ha] at hx
      exact hx.intK fun t => intOp_ok st h hQ
    · split at h
      · rename_i ha
        rw [fltOf1_eq ha] at hx
        exact ifF h fun hi h => hx.fltK fun t _ _ _ => fiOp_ok st hi h hQ
      · split at h
        · rename_i ha
          rw [lstOf1_eq ha] at hx
          exact hx.lstK fun _ _ _ _ h1 r1 => by cases op <;> first | exact nsd h | exact mulLst_ok st h1 r1 h hQ
        · exact nsd h
  · split at h
    · rename_i hb
      rw [fltOf1_eq hb] at hy
      refine hy.fltK fun u _ _ _ => ?_
      split at h
      · rename_i ha
        rw [fltOf1_eq ha] at hx
        exact hx.fltK fun t _ _ _ => fltOp_ok st h hQ
      · split at h
        · rename_i ha
          rw [intOf1_eq ha] at hx
          exact ifF h fun hi h => hx.intK fun t => ifOp_ok st hi h hQ
        · exact nsd h
    · split at h
      · rename_i hp
        obtain ⟨ha, hb⟩ := both_eq hp
        rw [strOf1_eq ha] at hx; rw [strOf1_eq hb] at hy
        exact hx.strK fun t => hy.strK fun u => by cases op <;> first | exact nsd h | exact addStr_ok st h hQ
      · split at h
        · rename_i hp
          obtain ⟨ha, hb⟩ := both_eq hp
          rw [lstOf1_eq ha] at hx; rw [lstOf1_eq hb] at hy
          exact hx.lstK fun _ _ _ _ h1 r1 => hy.lstK fun _ _ _ _ h2 r2 => by cases op <;> first | exact nsd h | exact addLst_ok st h1 h2 r1 r2 h hQ
        · exact nsd h
end
end Mine

end
section
open PySem PySem.W PyProof.Rows
set_option Elab.async false
namespace Mine
open PySem.SeqAt

noncomputable def eqAll (f : D → D → Option Bool) : List D → List D → Option Bool
  | [], [] => some true
  | x :: xs, y :: ys => match f x y with
    | some a => match eqAll f xs ys with
      | some b => some (a && b)
      | none => none
    | none => none
  | _, _ => none

noncomputable def isNone : D → Bool
  | .none => true
  | _ => false
theorem isNone_eq {d : D} (h : isNone d = true) : d = .none := by cases d <;> first | exact nft h | rfl
noncomputable def eqFl (x y : UInt64) : Option Bool := if Float64.isNaN x = true then none else some (Float64.cmp x y == some .eq)
noncomputable def eqL (rec : D → D → Option Bool) (xs ys : List D) : Option Bool := if xs.length = ys.length then eqAll rec xs ys else some false
noncomputable def eqS (rec : D → D → Option Bool) (a b : D) : Option Bool := match both (intOf1 a) (intOf1 b) with
  | some p => some (p.1 == p.2)
  | none => match both (strOf1 a) (strOf1 b) with
    | some p => some (p.1 == p.2)
    | none => match both (lstOf1 a) (lstOf1 b) with
      | some p => eqL rec p.1 p.2
      | none => match both (fltOf1 a) (fltOf1 b) with
        | some p => eqFl p.1 p.2
        | none => match both (tupOf1 a) (tupOf1 b) with
          | some p => eqAll rec p.1 p.2
          | none => match both (boolOf1 a) (boolOf1 b) with
            | some p => some (p.1 == p.2)
            | none => match isNone a && isNone b with
              | true => some true
              | false => none
/-- the cases of an answer -/
theorem eqS_inv {rec : D → D → Option Bool} {P : D → D → Bool → Prop} {a b : D} {r : Bool} (h : eqS rec a b = some r) (ki : ∀ x y, P (.int x) (.int y) (x == y)) (ks : ∀ x y, P (.str x) (.str y) (x == y)) (kl : ∀ x y r, eqL rec x y = some r → P (.lst x) (.lst y) r)
    (kf : ∀ x y r, eqFl x y = some r → P (.flt x) (.flt y) r) (kt : ∀ x y r, eqAll rec x y = some r → P (.tup x) (.tup y) r) (kb : ∀ x y, P (.bool x) (.bool y) (x == y)) (kn : P .none .none true) : P a b r := by
  unfold eqS at h
  split at h
  · rename_i hp; rw [intOf1_eq (both_eq hp).1, intOf1_eq (both_eq hp).2, ← Option.some.inj h]; exact ki _ _
  · split at h
    · rename_i hp; rw [strOf1_eq (both_eq hp).1, strOf1_eq (both_eq hp).2, ← Option.some.inj h]; exact ks _ _
    · split at h
      · rename_i hp; rw [lstOf1_eq (both_eq hp).1, lstOf1_eq (both_eq hp).2]; exact kl _ _ _ h
      · split at h
        · rename_i hp; rw [fltOf1_eq (both_eq hp).1, fltOf1_eq (both_eq hp).2]; exact kf _ _ _ h
        · split at h
          · rename_i hp; rw [tupOf1_eq (both_eq hp).1, tupOf1_eq (both_eq hp).2]; exact kt _ _ _ h
          · split at h
            · rename_i hp; rw [boolOf1_eq (both_eq hp).1, boolOf1_eq (both_eq hp).2, ← Option.some.inj h]; exact kb _ _
            · split at h
              · rename_i hp
                rw [Bool.and_eq_true] at hp
                rw [isNone_eq hp.1, isNone_eq hp.2, ← Option.some.inj h]; exact kn
              · exact nsd h
noncomputable def eqD : Nat → D → D → Option Bool
  | 0, _, _ => none
  | n + 1, a, b => eqS (eqD n) a b
theorem eqAll_inv {f : D → D → Option Bool} {x y : D} {xs ys : List D} {r : Bool} (h : eqAll f (x :: xs) (y :: ys) = some r) : ∃ a b, f x y = some a ∧ eqAll f xs ys = some b ∧ (a && b) = r := by
  unfold eqAll at h
  split at h
  · split at h
    · exact ⟨_, _, ‹_›, ‹_›, Option.some.inj h⟩
    · exact nsd h
  · exact nsd h

theorem eqAll_get {f : D → D → Option Bool} : ∀ {xs ys : List D} {r : Bool}, eqAll f xs ys = some r →
    xs.length = ys.length ∧ ∃ e : Nat → Bool, r = (List.range xs.length).all e ∧ ∀ i x y, xs[i]? = some x → ys[i]? = some y → f x y = some (e i)
  | [], [], r, h => ⟨rfl, fun _ => true, (Option.some.inj h).symm, fun _ _ _ hx => nsd hx⟩
  | x :: xs, y :: ys, r, h => by
    obtain ⟨a, b, hf, hr, rfl⟩ := eqAll_inv h
    obtain ⟨hl, e, hb, he⟩ := eqAll_get hr
    refine ⟨congrArg (· + 1) hl, fun i => match i with | 0 => a | i + 1 => e i, ?_, fun i => ?_⟩
    · rw [List.length_cons, List.range_succ_eq_map, List.all_cons, List.all_map, hb]; rfl
    · cases i with
      | zero => exact fun x' y' hx hy => Option.some.inj hx ▸ Option.some.inj hy ▸ hf
      | succ i => exact fun x' y' hx hy => he i x' y' hx hy
  | [], _ :: _, _, h => nsd h
  | _ :: _, [], _, h => nsd h

theorem LstAt.fn {h : Heap} {a : Addr} {i j : Array Value} {n m : Nat} (x : LstAt h a i n) (y : LstAt h a j m) : i = j := by
  have e := Option.some.inj (x.symm.trans y); injection e with e1 e2 e3; injection e3
theorem TupAt.fn {h : Heap} {a : Addr} {i j : Array Value} {n m : Nat} (x : TupAt h a i n) (y : TupAt h a j m) : i = j := by
  have e := Option.some.inj (x.symm.trans y); injection e with e1 e2 e3; injection e3
theorem LstAt.not_tup {h : Heap} {a : Addr} {i j : Array Value} {n m : Nat} (x : LstAt h a i n) (y : TupAt h a j m) : False := by
  have e := Option.some.inj (x.symm.trans y); injection e with e1; injection e1 with e1; exact absurd e1 (by decide)

theorem eqAll_same {G : Gh} {h : Heap} {f : D → D → Option Bool} (hf : ∀ {v a b r}, Rd G h v a → Rd G h v b → f a b = some r → r = true) : ∀ {xs ys : List D} {vs : List Value} {r : Bool}, RdL G h vs xs → RdL G h vs ys → eqAll f xs ys = some r → r = true
  | [], [], _, _, _, _, h => (Option.some.inj h).symm
  | [], _ :: _, _, _, _, _, h => nsd h
  | _ :: _, [], _, _, _, _, h => nsd h
  | x :: xs, y :: ys, _, r, r1, r2, h => by
    revert r2
    refine r1.consK fun v vs x1 xs1 r2 => ?_
    obtain ⟨a, b, ha, hb, rfl⟩ := eqAll_inv h
    rw [hf x1 r2.consV.1 ha, eqAll_same hf xs1 r2.consV.2 hb]; rfl
theorem flt_same {x : UInt64} {r : Bool} (h : eqFl x x = some r) : r = true :=
  ifF h fun hn h => by
    rw [← Option.some.inj h, PySem.Flt.cmp_self]; simpa using hn
theorem tup_same {G : Gh} {h : Heap} {f : D → D → Option Bool} (hf : ∀ {v a b r}, Rd G h v a → Rd G h v b → f a b = some r → r = true) {v : Value} {x y : List D} {r : Bool} (ra : Rd G h v (.tup x)) (rb : Rd G h v (.tup y)) (h : eqAll f x y = some r) : r = true := by
  revert rb; refine ra.tupK fun _ _ _ _ h1 r1 rb => ?_
  obtain ⟨_, _, h2, r2⟩ := rb.tupV
  have e := TupAt.fn h1 h2; subst e
  exact eqAll_same hf r1 r2 h
theorem lst_same {G : Gh} {h : Heap} {f : D → D → Option Bool} (hf : ∀ {v a b r}, Rd G h v a → Rd G h v b → f a b = some r → r = true) {v : Value} {x y : List D} {r : Bool} (ra : Rd G h v (.lst x)) (rb : Rd G h v (.lst y)) (h : eqL f x y = some r) : r = true := by
  revert rb; refine ra.lstK fun _ _ _ _ h1 r1 rb => ?_
  obtain ⟨_, _, h2, r2⟩ := rb.lstV
  have e := LstAt.fn h1 h2; subst e
  unfold eqL at h
  rw [if_pos (r1.length.symm.trans r2.length)] at h
  exact eqAll_same hf r1 r2 h
/-- one value read twice -/
theorem eqS_same {G : Gh} {H : Heap} {f : D → D → Option Bool} (hf : ∀ {v a b r}, Rd G H v a → Rd G H v b → f a b = some r → r = true) {v : Value} {a b : D} {r : Bool} (ra : Rd G H v a) (rb : Rd G H v b) (h : eqS f a b = some r) : r = true :=
  eqS_inv (P := fun a b r => Rd G H v a → Rd G H v b → r = true) h
    (fun x y ra => ra.intK (P := fun v => Rd G H v (.int y) → _) fun t rb => by rw [D.int.inj rb.vinv]; exact beq_self_eq_true _)
    (fun x y ra => ra.strK (P := fun v => Rd G H v (.str y) → _) fun t rb => by rw [D.str.inj rb.vinv]; exact beq_self_eq_true _)
    (fun x y r h ra rb => lst_same hf ra rb h)
    (fun x y r h ra => ra.fltK (P := fun v => Rd G H v (.flt y) → _) fun t _ _ _ rb => flt_same (x := x) (by rw [D.flt.inj (show D.flt y = D.flt x from rb.vinv)] at h; exact h))
    (fun x y r h ra rb => tup_same hf ra rb h)
    (fun x y ra => ra.boolK (P := fun v => Rd G H v (.bool y) → _) fun rb => by rw [D.bool.inj rb.vinv]; exact beq_self_eq_true _)
    (fun _ _ => rfl) ra rb
theorem eqD_same {G : Gh} {h : Heap} : ∀ {n : Nat} {v : Value} {a b : D} {r : Bool}, Rd G h v a → Rd G h v b → eqD n a b = some r → r = true
  | 0, _, _, _, _, _, _, h => nsd h
  | n + 1, _, _, _, _, ra, rb, h => eqS_same (f := eqD n) (fun x y q => eqD_same x y q) ra rb h
section
variable {B : Bs} {A : Around} {G : Gh} {s : Shared}
theorem EqAt_flt (st : St B G s) {x y : UInt64} {t u : Tok} (t0 : 0 < t) (u0 : 0 < u) (ht : G.τ t = x) (hu : G.τ u = y) (hn : ¬ Float64.isNaN x = true) :
    EqAt A s (.float x t) (.float y u) (Float64.cmp x y == some .eq) := by
  intro prog w E Q hq
  have self : x = y → Q true s := fun e => by
    subst e
    have : (Float64.cmp x x == some Ordering.eq) = true := by rw [PySem.Flt.cmp_self]; simpa using hn
    rw [this] at hq; exact hq
  unfold eqBool
  refine @wpAny_holding _ _ _ _ _ _ _ _ (@wpAny_ite _ _ _ _ _ _ _ _ _ _ ?_)
  by_cases e : ((Value.float x t) == (Value.float y u)) = true
  · rw [if_pos e]
    have := eq_of_beq e
    injection this with e1 e2
    exact @wpAny_bind _ _ _ _ _ _ _ _ _ (@wpAny_rule _ _ _ _ _ _ (@wpAny_pure _ _ _ _ _ _ _ (self e1)))
  · rw [if_neg e]
    have tail : wpAny (model prog w) A (do truthOfDropped (← richCompare .Eq (.float x t) (.float y u))) Q E s := @wpAny_bind _ _ _ _ _ _ _ _ _ (@AutoFloatOps.eq_0 _ _ _ _ _ _ _ _ _ _ (@wpAny_truthy_bool _ _ _ _ _ _ hq))
    refine @wpAny_bind _ _ _ _ _ _ _ _ _ ?_
    show wpAny _ _ (isSame.created (x == y && !Float64.isNaN x) t u) _ _ s
    unfold isSame.created
    refine @wpAny_ite _ _ _ _ _ _ _ _ _ _ ?_
    rw [if_neg (show ¬ (t == 0 || u == 0) = true by have h1 : t ≠ 0 := Nat.ne_of_gt t0; have h2 : u ≠ 0 := Nat.ne_of_gt u0; simp [h1, h2])]
    refine @wpAny_ite _ _ _ _ _ _ _ _ _ _ ?_
    by_cases htu : (t == u) = true
    · rw [if_pos htu]
      have hx : t = u := by simpa using htu
      subst hx
      refine @wpAny_pure _ _ _ _ _ _ _ ?_
      rw [if_pos rfl]
      exact @wpAny_pure _ _ _ _ _ _ _ (self (ht.symm.trans hu))
    · rw [if_neg htu]
      refine @wpAny_ite _ _ _ _ _ _ _ _ _ _ ?_
      by_cases hc : (x == y && !Float64.isNaN x) = true
      · rw [if_neg (by simpa using hc)]
        have hxy : x = y := by simp at hc; exact hc.1
        refine @wpAny_bind _ _ _ _ _ _ _ _ _ (@wpAny_sharingNotTold_none _ _ _ _ _ _ st.nb ?_)
        simp only [Bool.false_eq_true, if_false]
        refine @wpAny_bind _ _ _ _ _ _ _ _ _ (@wpAny_sharingNotTold_none _ _ _ _ _ _ st.nb ?_)
        simp only [Bool.false_eq_true, if_false]
        refine @wpAny_bind _ _ _ _ _ _ _ _ _ (@wpAny_rule _ _ _ _ _ _ (@wpAny_bind _ _ _ _ _ _ _ _ _ (@wpAny_askSetting _ _ _ _ _ (@wpAny_pure _ _ _ _ _ _ _ ?_))))
        refine @wpAny_ite _ _ _ _ _ _ _ _ _ _ ?_
        split
        · exact @wpAny_pure _ _ _ _ _ _ _ (self hxy)
        · exact tail
      · rw [if_pos (show (!(x == y && !Float64.isNaN x)) = true by rw [Bool.not_eq_true] at hc; rw [hc]; rfl)]
        refine @wpAny_pure _ _ _ _ _ _ _ ?_
        rw [if_neg Bool.false_ne_true]
        exact tail

structure EqOk (A : Around) (s : Shared) (x y : Value) (r : Bool) : Prop where
  eq : EqAt A s x y r
  rc : RcAt A s x y r
  ne : RcNeAt A s x y (!r)

theorem smQ {A : Around} {s : Shared} {x y : Value} {r r' : Bool} (h : some r = some r') (q : EqOk A s x y r) : EqOk A s x y r' := Option.some.inj h ▸ q
theorem items_ok {A : Around} {s : Shared} {i1 i2 : Array Value} {d1 d2 : List D} {e : Nat → Bool} {f : D → D → Option Bool} (r1 : RdL G s.heap i1.toList d1) (r2 : RdL G s.heap i2.toList d2)
    (he : ∀ i x y, d1[i]? = some x → d2[i]? = some y → f x y = some (e i))
    (hf : ∀ {x y a b r}, Rd G s.heap x a → Rd G s.heap y b → f a b = some r → EqAt A s x y r) :
    ∀ j (h1 : j < i1.size) (h2 : j < i2.size), EqAt A s i1[j] i2[j] (e j) := by
  intro j h1 h2
  obtain ⟨a, ha, ra⟩ := r1.getv (i := j) (v := i1[j]) (by simp [h1])
  obtain ⟨b, hb, rb⟩ := r2.getv (i := j) (v := i2[j]) (by simp [h2])
  exact hf ra rb (he j a b ha hb)

theorem tup_eq {L : Nat} {f : D → D → Option Bool} {a1 a2 : Addr} {i1 i2 : Array Value} {n1 n2 : Nat} {d1 d2 : List D} {r : Bool} (hf : ∀ {A x y a b r}, A.units + L < cLine → Rd G s.heap x a → Rd G s.heap y b → f a b = some r → EqAt A s x y r)
    (h1 : TupAt s.heap a1 i1 n1) (r1 : RdL G s.heap i1.toList d1) (h2 : TupAt s.heap a2 i2 n2) (r2 : RdL G s.heap i2.toList d2) (hu : A.units + (L + 1) < cLine) (h : eqAll f d1 d2 = some r) (hs : a1 = a2 → r = true) : EqOk A s (.ref a1) (.ref a2) r := by
  obtain ⟨hl, e, he, hg⟩ := eqAll_get h
  have hit := items_ok (A := A.in1) r1 r2 hg fun rx ry hr => hf (by show A.units + 1 + L < cLine; omega) rx ry hr
  have hu' : A.units < cLine := by omega
  have er : ((List.range (min i1.size i2.size)).all e && i1.size == i2.size) = r := by rw [r1.size, r2.size, ← hl, Nat.min_self, he]; simp
  have rc := RcAt.tuples (TupAt.is h1) (TupAt.is h2) hu' hit
  have ne := RcNeAt.tuples (TupAt.is h1) (TupAt.is h2) hu' hit
  rw [er] at rc ne
  refine ⟨?_, rc, ne⟩
  by_cases hab : a1 = a2
  · rw [hs hab, hab]; exact EqAt.same _
  · exact EqAt.of_refs hab rc
theorem lst_eq {L : Nat} {f : D → D → Option Bool} {a1 a2 : Addr} {i1 i2 : Array Value} {n1 n2 : Nat} {d1 d2 : List D} {r : Bool} (hf : ∀ {A x y a b r}, A.units + L < cLine → Rd G s.heap x a → Rd G s.heap y b → f a b = some r → EqAt A s x y r)
    (h1 : LstAt s.heap a1 i1 n1) (r1 : RdL G s.heap i1.toList d1) (h2 : LstAt s.heap a2 i2 n2) (r2 : RdL G s.heap i2.toList d2) (hu : A.units + (L + 1) < cLine) (h : eqL f d1 d2 = some r) (hs : a1 = a2 → r = true) : EqOk A s (.ref a1) (.ref a2) r := by
  unfold eqL at h
  have hu' : A.units < cLine := by omega
  have both : RcAt A s (.ref a1) (.ref a2) r ∧ RcNeAt A s (.ref a1) (.ref a2) (!r) := by
    by_cases hlen : d1.length = d2.length
    · rw [if_pos hlen] at h
      obtain ⟨hl, e, he, hg⟩ := eqAll_get h
      have hit := items_ok (A := A.in1) r1 r2 hg fun rx ry hr => hf (by show A.units + 1 + L < cLine; omega) rx ry hr
      have rc := RcAt.lists (LstAt.is h1) (LstAt.is h2) (by rw [r1.size, r2.size, hl]) hu' hit
      have ne := RcNeAt.lists (LstAt.is h1) (LstAt.is h2) (by rw [r1.size, r2.size, hl]) hu' hit
      rw [r1.size, ← he] at rc ne
      exact ⟨rc, ne⟩
    · rw [if_neg hlen] at h
      have hne : (i1.size != i2.size) = true := by rw [r1.size, r2.size]; simpa using hlen
      exact smK h ⟨RcAt.lists_lengths (LstAt.is h1) (LstAt.is h2) hne hu', RcNeAt.lists_lengths (LstAt.is h1) (LstAt.is h2) hne hu'⟩
  refine ⟨?_, both.1, both.2⟩
  by_cases hab : a1 = a2
  · rw [hs hab, hab]; exact EqAt.same _
  · exact EqAt.of_refs hab both.1
theorem flt_eq (st : St B G s) {x y : UInt64} {t u : Tok} {r : Bool} (t0 : 0 < t) (u0 : 0 < u) (ht : G.τ t = x) (hu : G.τ u = y) (h : eqFl x y = some r) : EqOk A s (.float x t) (.float y u) r :=
  ifF h fun hn h => Option.some.inj h ▸ ⟨EqAt_flt st t0 u0 ht hu hn, fun prog w E Q hq => @AutoFloatOps.eq_0 _ _ _ _ _ _ _ _ _ _ hq, fun prog w E Q hq => @AutoFloatOps.ne_0 _ _ _ _ _ _ _ _ _ _ hq⟩
theorem eqD_ok (st : St B G s) : ∀ {n : Nat} {A : Around} {x y : Value} {a b : D} {r : Bool}, Rd G s.heap x a → Rd G s.heap y b → eqD n a b = some r → A.units + n < cLine → EqOk A s x y r
  | 0, _, _, _, _, _, _, _, _, h, _ => nsd h
  | n + 1, A, x, y, a, b, r, hx, hy, h, hu =>
    eqS_inv (P := fun a b r => Rd G s.heap x a → Rd G s.heap y b → (x = y → r = true) → EqOk A s x y r) h
      (fun i j hx hy _ => hx.intK fun _ => hy.intK fun _ => ⟨EqAt.int_int _ _ _ _, RcAt.int_int _ _ _ _, RcNeAt.int_int _ _ _ _⟩)
      (fun i j hx hy _ => hx.strK fun _ => hy.strK fun _ => ⟨EqAt.str_str _ _ _ _, RcAt.str_str _ _ _ _, RcNeAt.str_str _ _ _ _⟩)
      (fun i j r h hx => hx.lstK (P := fun x => Rd G s.heap y (.lst j) → (x = y → r = true) → EqOk A s x y r) fun _ _ _ _ h1 r1 hy => hy.lstK (P := fun y => (_ = y → r = true) → EqOk A s _ y r) fun _ _ _ _ h2 r2 same =>
        lst_eq (fun q rx ry hr => (eqD_ok st rx ry hr q).eq) h1 r1 h2 r2 hu h fun e => same (e ▸ rfl))
      (fun i j r h hx hy _ => hx.fltK fun _ t0 _ ht => hy.fltK fun _ u0 _ hu => flt_eq st t0 u0 ht hu h)
      (fun i j r h hx => hx.tupK (P := fun x => Rd G s.heap y (.tup j) → (x = y → r = true) → EqOk A s x y r) fun _ _ _ _ h1 r1 hy => hy.tupK (P := fun y => (_ = y → r = true) → EqOk A s _ y r) fun _ _ _ _ h2 r2 same =>
        tup_eq (fun q rx ry hr => (eqD_ok st rx ry hr q).eq) h1 r1 h2 r2 hu h fun e => same (e ▸ rfl))
      (fun i j hx hy _ => hx.boolK (hy.boolK ⟨EqAt.bool_bool _ _, RcAt.bool_bool _ _, RcNeAt.bool_bool _ _⟩))
      (fun hx hy _ => hx.noneK (hy.noneK ⟨EqAt.same _, RcAt.none_none, RcNeAt.none_none⟩)) hx hy (fun e => eqD_same (n := n + 1) hx (e ▸ hy) h)
end
end Mine

end
section
open PySem PySem.W PyProof.Rows
set_option Elab.async false
namespace Mine
open PySem.SeqAt

noncomputable def ltD (a b : D) : Option Bool := match both (intOf1 a) (intOf1 b) with
  | some p => some (decide (p.1 < p.2))
  | none => match both (fltOf1 a) (fltOf1 b) with
    | some p => some (Float64.cmp p.1 p.2 == some .lt)
    | none => match both (fltOf1 a) (intOf1 b) with
      | some p => some (Float64.cmpInt p.1 p.2 == some .lt)
      | none => match both (intOf1 a) (fltOf1 b) with
        | some p => some (Float64.cmpInt p.2 p.1 == some .gt)
        | none => none
noncomputable def leD (a b : D) : Option Bool := match both (intOf1 a) (intOf1 b) with
  | some p => some (decide (p.1 ≤ p.2))
  | none => match both (fltOf1 a) (fltOf1 b) with
    | some p => some (Float64.cmp p.1 p.2 == some .lt || Float64.cmp p.1 p.2 == some .eq)
    | none => match both (fltOf1 a) (intOf1 b) with
      | some p => some (Float64.cmpInt p.1 p.2 == some .lt || Float64.cmpInt p.1 p.2 == some .eq)
      | none => match both (intOf1 a) (fltOf1 b) with
        | some p => some (Float64.cmpInt p.2 p.1 == some .gt || Float64.cmpInt p.2 p.1 == some .eq)
        | none => none
section
variable {G : Gh} {h : Heap} {x y : Value} {a b : D} {P : Value → Value → Prop}
theorem rd_ii {p : Int × Int} (hx : Rd G h x a) (hy : Rd G h y b) (e : both (intOf1 a) (intOf1 b) = some p) (k : ∀ t u, P (.int p.1 t) (.int p.2 u)) : P x y := by
  rw [intOf1_eq (both_eq e).1] at hx; rw [intOf1_eq (both_eq e).2] at hy
  exact hx.intK fun t => hy.intK fun u => k t u
theorem rd_ff {p : UInt64 × UInt64} (hx : Rd G h x a) (hy : Rd G h y b) (e : both (fltOf1 a) (fltOf1 b) = some p) (k : ∀ t u, P (.float p.1 t) (.float p.2 u)) : P x y := by
  rw [fltOf1_eq (both_eq e).1] at hx; rw [fltOf1_eq (both_eq e).2] at hy
  exact hx.fltK fun t _ _ _ => hy.fltK fun u _ _ _ => k t u
theorem rd_fi {p : UInt64 × Int} (hx : Rd G h x a) (hy : Rd G h y b) (e : both (fltOf1 a) (intOf1 b) = some p) (k : ∀ t u, P (.float p.1 t) (.int p.2 u)) : P x y := by
  rw [fltOf1_eq (both_eq e).1] at hx; rw [intOf1_eq (both_eq e).2] at hy
  exact hx.fltK fun t _ _ _ => hy.intK fun u => k t u
theorem rd_if {p : Int × UInt64} (hx : Rd G h x a) (hy : Rd G h y b) (e : both (intOf1 a) (fltOf1 b) = some p) (k : ∀ t u, P (.int p.1 t) (.float p.2 u)) : P x y := by
  rw [intOf1_eq (both_eq e).1] at hx; rw [fltOf1_eq (both_eq e).2] at hy
  exact hx.intK fun t => hy.fltK fun u _ _ _ => k t u
end
noncomputable def inD (a b : D) : Option Bool := match both (strOf1 a) (strOf1 b) with
  | some p => some (Txt.contains p.2 p.1)
  | none =>
      none
noncomputable def gtD (a b : D) : Option Bool := match both (intOf1 a) (intOf1 b) with
  | some p => some (decide (p.2 < p.1))
  | none => match both (fltOf1 a) (fltOf1 b) with
    | some p => some (Float64.cmp p.1 p.2 == some .gt)
    | none => none
noncomputable def typOf1 : D → Option String
  | .typ a => some a
  | _ => none
theorem typOf1_eq {d : D} {x : String} (h : typOf1 d = some x) : d = .typ x := by cases d <;> first | exact nsd h | exact congrArg D.typ (Option.some.inj h)
noncomputable def isD (a b : D) : Option Bool := match isNone b with
  | true => some (isNone a)
  | false => match both (typOf1 a) (typOf1 b) with
    | some p => some (p.1 == p.2)
    | none => none
noncomputable def cmpD (op : CmpOp) (a b : D) : Option Bool := match op with
  | .Eq => eqD 8 a b
  | .NotEq => match eqD 8 a b with
    | some r => some (!r)
    | none => none
  | .Lt => ltD a b
  | .LtE => leD a b
  | .Gt => gtD a b
  | .GtE => match both (intOf1 a) (intOf1 b) with
    | some p => some (decide (p.2 ≤ p.1))
    | none => none
  | .In => inD a b
  | .NotIn => match both (strOf1 a) (strOf1 b) with
    | some p => some (!Txt.contains p.2 p.1)
    | none => none
  | .Is => isD a b
  | .IsNot => match isD a b with
    | some r => some (!r)
    | none => none

noncomputable def truth : D → Option Bool
  | .none => some false
  | .bool b => some b
  | .int i => some (i != 0)
  | .str x => if (x.length : Int) < 2 ^ 63 then some ((x.length : Int) != 0) else none
  | .lst xs => if (xs.length : Int) < 2 ^ 63 then some (!xs.isEmpty) else none
  | _ => none

noncomputable def unop (op : UnaryOp) (a : D) : Option D := match op, a with
  | .USub, .int i => some (.int (-i))
  | .Invert, .int i => some (.int (Builtin.bitNot i))
  | .Not, a => match truth a with
    | some b => some (.bool (!b))
    | none => none
  | _, _ => none

noncomputable def inpOp (op : Operator) (a b : D) : Option D := match a with
  | .int i => match b with
    | .int j => match op with
      | .Add => some (.int (i + j))
      | .Sub => some (.int (i - j))
      | .LShift => if 0 ≤ j ∧ (Builtin.Int.intBits i : Int) + j ≤ 2 ^ 27 then some (.int (i * 2 ^ j.toNat)) else none
      | .RShift => if 0 ≤ j then some (.int (i.fdiv (2 ^ j.toNat))) else none
      | _ => none
    | _ => none
  | .str x => match b with
    | .str y => match op with
      | .Add => if x.length + y.length ≤ sizeLine then some (.str (x ++ y)) else none
      | _ => none
    | _ => none
  | _ => none

section
variable {B : Bs} {A : Around} {G : Gh} {s : Shared} {Q : Value → Shared → Prop} {E : Value → Shared → Prop} {m : Nat}

theorem lt_ok {x y : Value} {a b : D} {r : Bool} (hx : Rd G s.heap x a) (hy : Rd G s.heap y b) (h : ltD a b = some r) (hQ : Q (.bool r) s) : WP B A (compareOp .Lt x y) Q E s := by
  unfold ltD at h
  split at h
  · exact rd_ii (P := fun x y => WP B A (compareOp .Lt x y) Q E s) hx hy ‹_› fun t u => ⟨@PyProof.Rows.lt_int _ _ _ _ _ _ _ _ _ _ (smR h hQ)⟩
  · split at h
    · exact rd_ff (P := fun x y => WP B A (compareOp .Lt x y) Q E s) hx hy ‹_› fun t u => ⟨@AutoFloatOps.lt_0 _ _ _ _ _ _ _ _ _ _ (smR h hQ)⟩
    · split at h
      · exact rd_fi (P := fun x y => WP B A (compareOp .Lt x y) Q E s) hx hy ‹_› fun t u => ⟨@PyProof.Rows.lt_fi _ _ _ _ _ _ _ _ _ _ (smR h hQ)⟩
      · split at h
        · exact rd_if (P := fun x y => WP B A (compareOp .Lt x y) Q E s) hx hy ‹_› fun t u => ⟨@PyProof.Rows.lt_if _ _ _ _ _ _ _ _ _ _ (smR h hQ)⟩
        · exact nsd h
theorem le_ok {x y : Value} {a b : D} {r : Bool} (hx : Rd G s.heap x a) (hy : Rd G s.heap y b) (h : leD a b = some r) (hQ : Q (.bool r) s) : WP B A (compareOp .LtE x y) Q E s := by
  unfold leD at h
  split at h
  · exact rd_ii (P := fun x y => WP B A (compareOp .LtE x y) Q E s) hx hy ‹_› fun t u => ⟨@PyProof.Rows.le_int _ _ _ _ _ _ _ _ _ _ (smR h hQ)⟩
  · split at h
    · exact rd_ff (P := fun x y => WP B A (compareOp .LtE x y) Q E s) hx hy ‹_› fun t u => ⟨@AutoFloatOps.le_0 _ _ _ _ _ _ _ _ _ _ (smR h hQ)⟩
    · split at h
      · exact rd_fi (P := fun x y => WP B A (compareOp .LtE x y) Q E s) hx hy ‹_› fun t u => ⟨@PyProof.Rows.le_fi _ _ _ _ _ _ _ _ _ _ (smR h hQ)⟩
      · split at h
        · exact rd_if (P := fun x y => WP B A (compareOp .LtE x y) Q E s) hx hy ‹_› fun t u => ⟨@PyProof.Rows.le_if _ _ _ _ _ _ _ _ _ _ (smR h hQ)⟩
        · exact nsd h
theorem rd_ss {x y : Value} {a b : D} {p : Str × Str} {P : Value → Value → Prop} (hx : Rd G s.heap x a) (hy : Rd G s.heap y b) (e : both (strOf1 a) (strOf1 b) = some p) (k : ∀ t u, P (.str p.1 t) (.str p.2 u)) : P x y := by
  rw [strOf1_eq (both_eq e).1] at hx; rw [strOf1_eq (both_eq e).2] at hy
  exact hx.strK fun t => hy.strK fun u => k t u
theorem in_ok {x y : Value} {a b : D} {r : Bool} (rm : Room m A) (st : St B G s) (hx : Rd G s.heap x a) (hy : Rd G s.heap y b) (h : inD a b = some r) (hQ : Q (.bool r) s) : WP B A (compareOp .In x y) Q E s := by
  unfold inD at h
  split at h
  · exact rd_ss (P := fun x y => WP B A (compareOp .In x y) Q E s) hx hy ‹_› fun t u => ⟨@SB.contains _ _ _ _ _ _ _ _ _ _ (smR h hQ)⟩
  · exact nsd h
theorem typ_beq (n n' : String) : (Value.type n == Value.type n') = (n == n') := by rw [Bool.eq_iff_iff]; simp
theorem is_nn {x : Value} {a : D} (hx : Rd G s.heap x a) : isNone a = (x == Value.none) := by
  cases hx <;> rfl
/-- identity, once for both signs -/
theorem isD_ok {x y : Value} {a b : D} {r : Bool} (hx : Rd G s.heap x a) (hy : Rd G s.heap y b) (h : isD a b = some r) : (Q (.bool r) s → WP B A (compareOp .Is x y) Q E s) ∧ (Q (.bool (!r)) s → WP B A (compareOp .IsNot x y) Q E s) := by
  unfold isD at h
  split at h
  · rename_i hb
    rw [isNone_eq hb] at hy
    rw [← Option.some.inj h, is_nn hx]
    exact hy.noneK ⟨fun hQ => ⟨@is_none_gen _ _ _ _ _ _ hQ⟩, fun hQ => ⟨@isnot_none_gen _ _ _ _ _ _ hQ⟩⟩
  · split at h
    · rename_i hp
      rw [typOf1_eq (both_eq hp).1] at hx; rw [typOf1_eq (both_eq hp).2] at hy
      rw [← Option.some.inj h]
      exact hx.typK (hy.typK ⟨fun hQ => ⟨@wpAny_is_plain _ _ _ _ _ _ _ rfl (by rw [typ_beq]; exact hQ)⟩, fun hQ => ⟨@wpAny_isNot_plain _ _ _ _ _ _ _ rfl (by rw [typ_beq]; exact hQ)⟩⟩)
    · exact nsd h
theorem gt_ok {x y : Value} {a b : D} {r : Bool} (hx : Rd G s.heap x a) (hy : Rd G s.heap y b) (h : gtD a b = some r) (hQ : Q (.bool r) s) : WP B A (compareOp .Gt x y) Q E s := by
  unfold gtD at h
  split at h
  · exact rd_ii (P := fun x y => WP B A (compareOp .Gt x y) Q E s) hx hy ‹_› fun t u => ⟨@PyProof.Rows.gt_int _ _ _ _ _ _ _ _ _ _ (smR h hQ)⟩
  · split at h
    · exact rd_ff (P := fun x y => WP B A (compareOp .Gt x y) Q E s) hx hy ‹_› fun t u => ⟨@AutoFloatOps.gt_0 _ _ _ _ _ _ _ _ _ _ (smR h hQ)⟩
    · exact nsd h
theorem cmpD_ok {op : CmpOp} {x y : Value} {a b : D} {r : Bool} (rm : Room m A) (st : St B G s) (hx : Rd G s.heap x a) (hy : Rd G s.heap y b) (h : cmpD op a b = some r)
    (hQ : Q (.bool r) s) : WP B A (compareOp op x y) Q E s := by
  have hu : A.units + 8 < cLine := by have := rm.line; omega
  cases op
  case Eq => exact ⟨(eqD_ok st hx hy h hu).rc _ _ _ _ hQ⟩
  case NotEq =>
    replace h : (match eqD 8 a b with | some r => some (!r) | none => none) = some r := h
    split at h
    · rename_i q hr; exact ⟨(eqD_ok st hx hy hr hu).ne _ _ _ _ (smR h hQ)⟩
    · exact nsd h
  case Lt => exact lt_ok hx hy h hQ
  case LtE => exact le_ok hx hy h hQ
  case Gt => exact gt_ok hx hy h hQ
  case GtE =>
    replace h : (match both (intOf1 a) (intOf1 b) with | some p => some (decide (p.2 ≤ p.1)) | none => none) = some r := h
    split at h
    · exact rd_ii (P := fun x y => WP B A (compareOp .GtE x y) Q E s) hx hy ‹_› fun t u => ⟨@PyProof.Rows.ge_int _ _ _ _ _ _ _ _ _ _ (smR h hQ)⟩
    · exact nsd h
  case In => exact in_ok rm st hx hy h hQ
  case NotIn =>
    replace h : (match both (strOf1 a) (strOf1 b) with | some p => some (!Txt.contains p.2 p.1) | none => none) = some r := h
    split at h
    · exact rd_ss (P := fun x y => WP B A (compareOp .NotIn x y) Q E s) hx hy ‹_› fun t u => ⟨@SB.notContains _ _ _ _ _ _ _ _ _ _ (smR h hQ)⟩
    · exact nsd h
  case Is => exact (isD_ok hx hy h).1 hQ
  case IsNot =>
    replace h : (match isD a b with | some r => some (!r) | none => none) = some r := h
    split at h
    · rename_i hi
      exact (isD_ok hx hy hi).2 (smR h hQ)
    · exact nsd h

theorem truth_ok {x : Value} {a : D} {r : Bool} {Q : Bool → Shared → Prop} (st : St B G s) (hx : Rd G s.heap x a) (h : truth a = some r)
    (hQ : ∀ s', Ke B G s G s' → Q r s') : WP B A (truthy x) Q E s := by
  unfold truth at h
  split at h
  · exact hx.noneK ⟨@truthy_none _ _ _ _ _ (smR h (hQ _ (.refl st)))⟩
  · exact hx.boolK ⟨@wpAny_truthy_bool _ _ _ _ _ _ (smR h (hQ _ (.refl st)))⟩
  · exact hx.intK fun t => ⟨@PyProof.Rows.truthy_int _ _ _ _ _ _ _ _ (smR h (hQ _ (.refl st)))⟩
  · exact ifT h fun hs h => hx.strK fun t => ⟨@P.truthy_str _ _ _ _ _ _ _ _ (by omega) (smR h (hQ _ (.tok st (by omega))))⟩
  · rename_i ds
    refine ifT h fun hs h => hx.lstK fun a items n _ hl hd => ?_
    have e := hd.size
    have e2 : (!items.isEmpty) = !ds.isEmpty := by
      cases ds with
      | nil => rw [Array.eq_empty_of_size_eq_zero e]; rfl
      | cons d ds => have : items ≠ #[] := fun h => by rw [h] at e; cases e
                     simp [this]
    exact ⟨@wpAny_truthy_list _ _ _ _ _ _ _ _ (LstAt.is hl) (by rw [e]; exact hs) (by rw [e2]; exact smR h (hQ _ (.tok st (by omega))))⟩
  · exact nsd h

theorem unop_ok {op : UnaryOp} {x : Value} {a d : D} (st : St B G s) (hx : Rd G s.heap x a) (h : unop op a = some d) (hQ : Post B G s d Q) : WP B A (unaryOp op x) Q E s := by
  unfold unop at h
  split at h
  · exact hx.intK fun t => ⟨@PyProof.Rows.neg_int _ _ _ _ _ _ _ _ ((hQ.of h).tok1 st (.int _ _))⟩
  · exact hx.intK fun t => ⟨@PyProof.Rows.invert_int _ _ _ _ _ _ _ _ ((hQ.of h).tok1 st (.int _ _))⟩
  · split at h
    · rename_i b ht
      exact ⟨@not_of _ _ _ _ _ _ (truth_ok (A := A) (E := E) st hx ht fun s' k => (hQ.of h) _ _ _ k (.bool _)).w⟩
    · exact nsd h
  · exact nsd h

theorem inpOp_ok {op : Operator} {x y : Value} {a b d : D} (st : St B G s) (hx : Rd G s.heap x a) (hy : Rd G s.heap y b) (h : inpOp op a b = some d) (hQ : Post B G s d Q) : WP B A (inplaceOp op x y) Q E s := by
  unfold inpOp at h
  split at h
  · split at h
    · split at h
      · exact hx.intK fun t => hy.intK fun u => ⟨@PyProof.Rows.iadd_int _ _ _ _ _ _ _ _ _ _ ((hQ.of h).tok1 st (.int _ _))⟩
      · exact hx.intK fun t => hy.intK fun u => ⟨@PyProof.Rows.isub_int _ _ _ _ _ _ _ _ _ _ ((hQ.of h).tok1 st (.int _ _))⟩
      · exact hx.intK fun t => hy.intK fun u => ifT h fun hc h => ⟨@PyProof.Rows.ilshift_int _ _ _ _ _ _ _ _ _ _ hc.1 hc.2 ((hQ.of h).tok1 st (.int _ _))⟩
      · exact hx.intK fun t => hy.intK fun u => ifT h fun hc h => ⟨@PyProof.Rows.irshift_int _ _ _ _ _ _ _ _ _ _ hc ((hQ.of h).tok1 st (.int _ _))⟩
      · exact nsd h
    · exact nsd h
  · split at h
    · split at h
      · exact hx.strK fun t => hy.strK fun u => ifT h fun hs h => WP.mt ⟨@PyProof.Rows.iadd_str _ _ _ _ _ _ _ _ _ _ (fun t' tk ht _ => (hQ.of h).tok st (.str _ _) ht) hs⟩
      · exact nsd h
    · exact nsd h
  · exact nsd h
end
end Mine

end
section
open PySem PySem.W PyProof.Rows
set_option Elab.async false
namespace Mine

noncomputable def ownedT (n : String) : Bool := ["enumerate", "zip", "dict_itemiterator", "dict_reverseitemiterator", "odict_iterator", "itertools.zip_longest", "itertools.pairwise"].contains n

/-- an iterator at I that will yield what stands for xs -/
inductive SrcIs (B : Bs) (A : Around) (I : Addr) (G : Gh) (s : Shared) (xs : List D) : Prop
  | mk (fp : List Addr) (n i : Nat) (P : Nat → Value → Prop) (S : Nat → Heap → Prop)
    (W : Walks B.prog B.w A I fp [I] n P S) (hS : S i s.heap) (hn : i + xs.length = n) (hfp : ∀ b ∈ fp, b = I ∨ (b ∉ G.O ∧ b < s.heap.objs.size)) (hP : ∀ j v d, P (i + j) v → xs[j]? = some d → Rd G s.heap v d)
    (hob : ∀ j h, S j h → ∃ o T, h.get? I = some o ∧ o.cls = .type T ∧ ownedT T = false ∧ T ≠ "code") : SrcIs B A I G s xs
structure Src (B : Bs) (A : Around) (I : Addr) (G : Gh) (s : Shared) (xs : List D) : Prop where
  has : SrcIs B A I G s xs

section
variable {B : Bs} {A : Around} {G : Gh} {s : Shared} {I : Addr} {xs : List D} {x : D} {E : Value → Shared → Prop}

theorem Src.next (src : Src B A I G s (x :: xs)) (st : St B G s) (hI : I ∈ G.O) (hIt : I ∉ B.tb) {Q : Option Value → Shared → Prop}
    (hQ : ∀ v s', Kw B [I] G s G s' → Rd G s'.heap v x → Src B A I G s' xs → Q (some v) s') : WP B A (pyNext (.ref I)) Q E s := by
  obtain ⟨fp, n, i, P, S, W, hS, hn, hfp, hP, hob⟩ := src.has
  refine WP.mt ⟨W.item i s _ _ (by rw [List.length_cons] at hn; omega) hS fun v h' tk hv hS' hk htk hsz => ?_⟩
  have kw : Kw B [I] G s G { s with heap := h', toks := tk } := Kw.one st (a := I) (List.mem_singleton.mpr rfl) hIt (fun b o hb e => hk b o (by simpa using hb) e) hsz htk (by obtain ⟨o, T, ho, hc, _, hT⟩ := hob i _ hS; exact NC.cls ho (by rw [hc]; intro q; exact hT (Value.type.inj q)))
  have up := kw.up st (fun a ha => by rw [List.mem_singleton.mp ha]; exact hI)
  refine hQ v _ kw ((hP 0 v x hv rfl).up up) ⟨fp, n, i + 1, P, S, W, hS', by rw [List.length_cons] at hn; omega, fun b hb => ?_, fun j v d hv hd => ?_, hob⟩
  · exact (hfp b hb).imp id fun h => ⟨h.1, Nat.lt_of_lt_of_le h.2 hsz⟩
  · exact (hP (j + 1) v d (by rw [← Nat.add_assoc, Nat.add_right_comm]; exact hv) (by simpa using hd)).up up

theorem Src.done (src : Src B A I G s []) (st : St B G s) (hIt : I ∉ B.tb) {Q : Option Value → Shared → Prop} (hQ : ∀ s', Kw B [I] G s G s' → Q none s') : WP B A (pyNext (.ref I)) Q E s := by
  obtain ⟨fp, n, i, P, S, W, hS, hn, hfp, hP, hob⟩ := src.has
  have hn' : i = n := by simpa using hn
  subst hn'
  exact WP.mt ⟨W.done s _ _ hS fun h' tk hk htk hsz => hQ _ (Kw.one st (a := I) (List.mem_singleton.mpr rfl) hIt (fun b o hb e => hk b o (by simpa using hb) e) hsz htk (by obtain ⟨o, T, ho, hc, _, hT⟩ := hob i _ hS; exact NC.cls ho (by rw [hc]; intro q; exact hT (Value.type.inj q))))⟩

theorem Src.self (src : Src B A I G s xs) {Q : Value → Shared → Prop} (hQ : Q (.ref I) s) : WP B A (pyIter (.ref I)) Q E s := by
  obtain ⟨fp, n, i, P, S, W, hS, _⟩ := src.has
  exact ⟨W.self i s _ _ hS hQ⟩

theorem Src.kw {W : List Addr} {G' : Gh} {s' : Shared} (src : Src B A I G s xs) (st : St B G s) (k : Kw B W G s G' s') (hW : ∀ a ∈ W, a ∈ G.O) (hI : I ∉ W) (hIt : I ∉ B.tb) : Src B A I G' s' xs := by
  obtain ⟨fp, n, i, P, S, W', hS, hn, hfp, hP, hob⟩ := src.has
  have up := k.up st hW
  refine ⟨fp, n, i, P, S, W', W'.frame i _ _ hS fun b hb o e => ?_, hn, fun b hb => (hfp b hb).imp id fun h => ⟨k.o ▸ h.1, Nat.lt_of_lt_of_le h.2 k.sz⟩, fun j v d hv hd => (hP j v d hv hd).up up, hob⟩
  refine k.kp b o (fun m => ?_) e
  rcases List.mem_append.mp m with h | h
  · rcases hfp b hb with q | q
    · exact hI (q ▸ h)
    · exact q.1 (hW b h)
  · rcases hfp b hb with q | q
    · exact hIt (q ▸ h)
    · exact q.1 (st.sub b h)

/-- more is owned: new things alone -/
theorem Src.more {O' : List Addr} (src : Src B A I G s xs) (h : ∀ a ∈ O', a ∈ G.O ∨ s.heap.objs.size ≤ a) : Src B A I { G with O := O' } s xs := by
  obtain ⟨fp, n, i, P, S, W, hS, hn, hfp, hP, hob⟩ := src.has
  have up : Up G s.heap { G with O := O' } s.heap := ⟨Kp.refl _ _, fun a ha => (h a ha).imp id Heap.get?_none_of_le, Nat.le_refl _, fun _ _ => rfl⟩
  exact ⟨fp, n, i, P, S, W, hS, hn, fun b hb => (hfp b hb).imp id fun q => ⟨fun m => (h b m).elim q.1 (Nat.not_le.mpr q.2), q.2⟩, fun j v d hv hd => (hP j v d hv hd).up up, hob⟩

theorem Src.go {elts : List Expr} {k : Nat} {pos : Pos} {v : Value} {Q : Unit → Shared → Prop} (src : Src B A I G s xs) (hQ : Q () s) : WP B A (letOwnedTupleGo (.Tuple elts k pos) (.ref I) v) Q E s := by
  obtain ⟨fp, n, i, P, S, W, hS, hn, hfp, hP, hob⟩ := src.has
  obtain ⟨o, T, ho, hc, hT, _⟩ := hob i _ hS
  cases v with
  | ref T' =>
    refine ⟨?_⟩
    unfold letOwnedTupleGo
    refine @wpAny_bind _ _ _ _ _ _ _ _ _ (@wpAny_load _ _ _ _ _ _ _ ho ?_)
    rw [hc]
    cases hd : o.data with
    | fields vs =>
      show wpAny _ A (if (["enumerate", "zip", "dict_itemiterator", "dict_reverseitemiterator", "odict_iterator", "itertools.zip_longest", "itertools.pairwise"].contains T && vs[0]? == some (rawInt T')) = true then _ else _) Q E s
      rw [if_neg (by intro h; rw [show (["enumerate", "zip", "dict_itemiterator", "dict_reverseitemiterator", "odict_iterator", "itertools.zip_longest", "itertools.pairwise"].contains T) = false from hT, Bool.false_and] at h; cases h)]
      exact @wpAny_pure _ _ _ _ _ _ _ hQ
    | _ => exact @wpAny_pure _ _ _ _ _ _ _ hQ
  | _ => exact ⟨@wpAny_pure _ _ _ _ _ _ _ hQ⟩
end

noncomputable def iterD : D → Option (List D)
  | .lst xs => some xs
  | .tup xs => some xs
  | .rng a b => if Builtin.Range.small a b 1 = true then some ((List.range (b - a).toNat).map fun (i : Nat) => D.int (a + (i : Int))) else none
  | .str x => if x.cps.all (· < 128) = true then some (x.cps.toList.map fun c => .str ⟨#[c]⟩) else none
  | _ => none

theorem rangeSize_one (a b : Int) : Builtin.Range.rangeSize a b 1 = ((b - a).toNat : Int) := by
  unfold Builtin.Range.rangeSize
  rw [if_pos (by decide), Int.ediv_one]
  split
  · rename_i h; rw [Int.sub_add_cancel, Int.toNat_of_nonneg (Int.sub_nonneg_of_le (Int.le_of_lt h))]
  · rename_i h; rw [Int.toNat_of_nonpos (Int.sub_nonpos_of_le (Int.not_lt.mp h))]; rfl

section
variable {B : Bs} {A : Around} {G : Gh} {s : Shared} {E : Value → Shared → Prop} {m : Nat}
theorem iter_ok {v : Value} {d : D} {xs : List D} {Q : Value → Shared → Prop} (rm : Room m A) (st : St B G s) (r : Rd G s.heap v d) (h : iterD d = some xs)
    (hQ : ∀ I s', s.heap.objs.size ≤ I → I < s'.heap.objs.size → Ke B G s G s' → Src B A I { G with O := I :: G.O } s' xs → Q (.ref I) s') : WP B A (pyIter v) Q E s := by
  have hlt : ∀ o, s.heap.objs.size < (s.heap.push o).objs.size := fun o => by rw [Heap.size_push]; exact Nat.lt_succ_self _
  have nI : ∀ (o : Obj) (b : Addr), b ∉ G.O → b < s.heap.objs.size → b = s.heap.objs.size ∨ (b ∉ s.heap.objs.size :: G.O ∧ b < (s.heap.push o).objs.size) := fun o b hb hl =>
    .inr ⟨fun m => (List.mem_cons.mp m).elim (Nat.ne_of_lt hl) hb, Nat.lt_trans hl (hlt o)⟩
  have rdl : ∀ (o : Obj) {vs : List Value} {ds : List D}, RdL G s.heap vs ds → RdL { G with O := s.heap.objs.size :: G.O } (s.heap.push o) vs ds := fun o vs ds r =>
    RdL.up (G' := { G with O := s.heap.objs.size :: G.O }) ⟨Kp.push _ _ _, fun a ha => (List.mem_cons.mp ha).elim (fun q => .inr (q ▸ get_size_none _)) .inl, Nat.le_refl _, fun _ _ => rfl⟩ r
  unfold iterD at h
  split at h
  · refine r.lstK fun a items n ha hl hd => ?_
    rw [Option.some.inj h] at hd
    refine ⟨@wpAny_pyIter_list _ _ _ _ _ _ _ _ (LstAt.is hl) ?_⟩
    have hne : a ≠ s.heap.objs.size := Nat.ne_of_lt (Heap.lt_size hl)
    refine hQ _ _ (Nat.le_refl _) (hlt _) (Ke.push st _ (Nat.le_refl _)) ⟨[s.heap.objs.size, a], items.size, 0, _, _, Walks.list rm.hd _ a hne items, ⟨⟨_, Heap.get?_push_size _ rfl, rfl, rfl⟩, LstAt.is (Heap.get?_push_of_some _ hl)⟩, ?_, ?_, ?_, ?_⟩
    · rw [hd.size, Nat.zero_add]
    · intro b hb
      rcases List.mem_cons.mp hb with q | q
      · exact .inl q
      · rw [List.mem_singleton.mp q]; exact nI _ a ha (Heap.lt_size hl)
    · intro j v d hv hdj
      obtain ⟨v', hv', rv⟩ := (rdl _ hd).get hdj
      rw [Nat.zero_add] at hv
      have : v' = v := by rw [Array.getElem?_toList] at hv'; exact Option.some.inj (hv'.symm.trans hv)
      exact this ▸ rv
    · rintro j h ⟨⟨o, ho, hc, _⟩, _⟩
      exact ⟨o, _, ho, hc, by decide, by decide⟩
  · refine r.tupK fun a items n ha hl hd => ?_
    rw [Option.some.inj h] at hd
    refine ⟨@wpAny_pyIter_tuple _ _ _ _ _ _ _ _ (TupAt.is hl) ?_⟩
    have hne : a ≠ s.heap.objs.size := Nat.ne_of_lt (Heap.lt_size hl)
    refine hQ _ _ (Nat.le_refl _) (hlt _) (Ke.push st _ (Nat.le_refl _)) ⟨[s.heap.objs.size, a], items.size, 0, _, _, Walks.tuple rm.hd _ a hne items, ⟨⟨_, Heap.get?_push_size _ rfl, rfl, rfl⟩, TupAt.is (Heap.get?_push_of_some _ hl)⟩, ?_, ?_, ?_, ?_⟩
    · rw [hd.size, Nat.zero_add]
    · intro b hb
      rcases List.mem_cons.mp hb with q | q
      · exact .inl q
      · rw [List.mem_singleton.mp q]; exact nI _ a ha (Heap.lt_size hl)
    · intro j v d hv hdj
      obtain ⟨v', hv', rv⟩ := (rdl _ hd).get hdj
      rw [Nat.zero_add] at hv
      have : v' = v := by rw [Array.getElem?_toList] at hv'; exact Option.some.inj (hv'.symm.trans hv)
      exact this ▸ rv
    · rintro j h ⟨⟨o, ho, hc, _⟩, _⟩
      exact ⟨o, _, ho, hc, by decide, by decide⟩
  · rename_i a b
    refine ifT h fun hs h => ?_
    · refine r.rngK fun r t u v ha hr => ?_
      rw [← Option.some.inj h] at hQ
      refine ⟨@wpAny_pyIter_range _ _ _ _ _ _ _ _ _ _ _ _ _ hr hs ?_⟩
      refine hQ _ _ (Nat.le_refl _) (hlt _) (Ke.push st _ (Nat.le_refl _)) ⟨[s.heap.objs.size], (b - a).toNat, 0, _, _, Walks.range rm.hd _ a 1 (b - a).toNat, ?_, ?_, ?_, ?_, ?_⟩
      · show (s.heap.push _).get? _ = _
        rw [rangeSize_one, Heap.get?_push_size _ rfl]; simp
      · simp
      · intro b hb; exact .inl (List.mem_singleton.mp hb)
      · rintro j v d ⟨t, rfl⟩ hd
        simp only [List.getElem?_map, Option.map_eq_some_iff] at hd
        obtain ⟨k, hk, rfl⟩ := hd
        have hkj : k = j := by
          have := List.getElem?_eq_some_iff.mp hk
          obtain ⟨h1, h2⟩ := this
          simpa using h2.symm
        subst hkj
        have e : a + ((0 + k : Nat) : Int) * 1 = a + (k : Int) := by omega
        rw [e]; exact .int _ _
      · intro j h hS; exact ⟨_, _, hS, rfl, by decide, by decide⟩
  · rename_i x
    refine ifT h fun hs h => ?_
    · refine r.strK fun t => ?_
      rw [← Option.some.inj h] at hQ
      refine ⟨@wpAny_pyIter_ascii _ _ _ _ _ _ _ _ hs ?_⟩
      refine hQ _ _ (Nat.le_refl _) (hlt _) (Ke.push st _ (Nat.le_refl _)) ⟨[s.heap.objs.size], x.cps.size, 0, _, _, Walks.strAscii rm.hd _ x t, ⟨_, Heap.get?_push_size _ rfl, rfl, rfl⟩, ?_, ?_, ?_, ?_⟩
      · simp
      · intro b hb; exact .inl (List.mem_singleton.mp hb)
      · rintro j v d ⟨c, u, hc, rfl⟩ hd
        simp only [List.getElem?_map, Option.map_eq_some_iff] at hd
        obtain ⟨c', hc', rfl⟩ := hd
        rw [Nat.zero_add] at hc
        have : c' = c := by rw [Array.getElem?_toList] at hc'; exact Option.some.inj (hc'.symm.trans hc)
        rw [this]; exact .str _ _
      · rintro j h ⟨o, ho, hc, _⟩; exact ⟨o, _, ho, hc, by decide, by decide⟩
  · exact nsd h
end
end Mine

end
section
open PySem PySem.W PyProof.Rows
set_option Elab.async false
namespace Mine

/-- signs compared by lists (the kernel is quick at it) -/
noncomputable def natsEq : List Nat → List Nat → Bool
  | [], [] => true
  | a :: as, b :: bs => match Nat.beq a b with
    | true => natsEq as bs
    | false => false
  | _, _ => false
noncomputable def strEq (a b : Str) : Bool := natsEq a.cps.toList b.cps.toList
theorem natsEq_iff : ∀ {a b : List Nat}, natsEq a b = true ↔ a = b
  | [], [] => by simp [natsEq]
  | [], _ :: _ => by simp [natsEq]
  | _ :: _, [] => by simp [natsEq]
  | a :: as, b :: bs => by
    simp only [natsEq]
    cases h : Nat.beq a b with
    | true => have := Nat.eq_of_beq_eq_true h; subst this; simp [natsEq_iff]
    | false => have := Nat.ne_of_beq_eq_false h; simp [this]
theorem strEq_iff {a b : Str} : strEq a b = true ↔ a = b := by
  unfold strEq
  rw [natsEq_iff]
  constructor
  · intro h; cases a; cases b; simp only [Str.mk.injEq]; exact Array.toList_inj.mp h
  · intro h; rw [h]
theorem strEq_eq (a b : Str) : strEq a b = (a == b) := by
  rw [Bool.eq_iff_iff, strEq_iff]; simp
noncomputable def look {α : Type} : List (Str × α) → Str → Option α
  | [], _ => none
  | (y, a) :: r, x => match strEq x y with
    | true => some a
    | false => look r x
theorem look_eq {α : Type} : ∀ (l : List (Str × α)) (x : Str), look l x = l.lookup x
  | [], _ => rfl
  | (y, a) :: r, x => by
    simp only [look, List.lookup_cons, strEq_eq, look_eq r x]
    cases x == y <;> rfl

inductive Pr where
  | len | sum | range | abs | min | max | round | int | str | tuple | all | divmod | type
noncomputable def prTab : List (Str × (Pr × Value)) := [("len", (.len, .builtin "len")), ("sum", (.sum, .builtin "sum")), ("range", (.range, .type "range")), ("abs", (.abs, .builtin "abs")), ("min", (.min, .builtin "min")), ("max", (.max, .builtin "max")),
  ("round", (.round, .builtin "round")), ("int", (.int, .type "int")), ("str", (.str, .type "str")), ("tuple", (.tuple, .type "tuple")), ("all", (.all, .builtin "all")), ("divmod", (.divmod, .builtin "divmod")), ("type", (.type, .type "type"))]
noncomputable def Pr.val : Pr → Value
  | .len => .builtin "len" | .sum => .builtin "sum" | .range => .type "range" | .abs => .builtin "abs" | .min => .builtin "min" | .max => .builtin "max" | .round => .builtin "round" | .int => .type "int"
  | .str => .type "str" | .tuple => .type "tuple" | .all => .builtin "all" | .divmod => .builtin "divmod" | .type => .type "type"

noncomputable def intsOf : List D → Option (List Int)
  | [] => some []
  | .int i :: r => match intsOf r with
    | some l => some (i :: l)
    | none => none
  | _ => none
noncomputable def fgt (x y : UInt64) : Bool := Float64.cmp x y == some .gt
noncomputable def flt' (x y : UInt64) : Bool := Float64.cmp x y == some .lt

noncomputable def typeD : D → Option String
  | .str _ => some "str"
  | .int _ => some "int"
  | .lst _ => some "list"
  | _ => none

noncomputable def lenP : D → Option D
  | .lst xs => if (xs.length : Int) < 2 ^ 63 then some (.int xs.length) else none
  | .str x => if (x.length : Int) < 2 ^ 63 then some (.int x.length) else none
  | _ => none
noncomputable def rangeP (ds : List D) : Option D := match sole intOf1 ds with
  | some n => some (.rng 0 n)
  | none => match two intOf1 intOf1 ds with
    | some p => some (.rng p.1 p.2)
    | none => none
noncomputable def minP (ds : List D) : Option D := match two intOf1 intOf1 ds with
  | some p => some (.int (if p.2 < p.1 then p.2 else p.1))
  | none => match three fltOf1 fltOf1 fltOf1 ds with
    | some p => some (.flt (if flt' p.2.1 p.1 then (if flt' p.2.2 p.2.1 then p.2.2 else p.2.1) else (if flt' p.2.2 p.1 then p.2.2 else p.1)))
    | none => none
noncomputable def maxP (ds : List D) : Option D := match two intOf1 intOf1 ds with
  | some p => some (.int (if p.2 > p.1 then p.2 else p.1))
  | none => match three fltOf1 fltOf1 fltOf1 ds with
    | some p => some (.flt (if fgt p.2.1 p.1 then (if fgt p.2.2 p.2.1 then p.2.2 else p.2.1) else (if fgt p.2.2 p.1 then p.2.2 else p.1)))
    | none => none
noncomputable def intP : D → Option D
  | .flt x => if Float64.isFinite x = true then some (.int (PySem.Flt.toInt Float64.truncOf x)) else none
  | .bool b => some (.int (if b then 1 else 0))
  | .str x => match PySem.intText? x with
    | some n => if x.length ≤ 640 then some (.int n) else none
    | none => none
  | _ => none
noncomputable def divmodP (ds : List D) : Option D := match two intOf1 intOf1 ds with
  | some p => if p.2 = 0 ∨ Builtin.divisionGoesByPylong p.1 p.2 = true then none else some (.tup [.int (p.1.fdiv p.2), .int (p.1.fmod p.2)])
  | none => none
noncomputable def sumP : D → Option D
  | .lst xs => match intsOf xs with
    | some l => some (.int l.sum)
    | none => none
  | _ => none
noncomputable def typP (d : D) : Option D := match typeD d with
  | some n => some (.typ n)
  | none => none
noncomputable def absP : D → Option D
  | .int a => some (.int (if a < 0 then -a else a))
  | _ => none
noncomputable def roundP : D → Option D
  | .flt x => if Float64.isFinite x = true then some (.int (PySem.Flt.toInt Float64.nearestOf x)) else none
  | _ => none
noncomputable def strP1 : D → Option D
  | .int a => if a.natAbs.log2 < 1920 then some (.str (Str.ofString (toString a))) else none
  | _ => none
noncomputable def prim1 : Pr → D → Option D
  | .len, d => lenP d
  | .sum, d => sumP d
  | .abs, d => absP d
  | .round, d => roundP d
  | .int, d => intP d
  | .str, d => strP1 d
  | .type, d => typP d
  | _, _ => none
noncomputable def primN : Pr → List D → Option D
  | .range, ds => rangeP ds
  | .min, ds => minP ds
  | .max, ds => maxP ds
  | .divmod, ds => divmodP ds
  | _, _ => none
noncomputable def Pr.one : Pr → Bool
  | .range => false
  | .min => false
  | .max => false
  | .divmod => false
  | _ => true
noncomputable def primD (p : Pr) (ds : List D) : Option D := match p.one with
  | true => match ds with
    | [d] => prim1 p d
    | _ => none
  | false => primN p ds

section
variable {B : Bs} {A : Around} {G : Gh} {s : Shared} {Q : Value → Shared → Prop} {E : Value → Shared → Prop} {m : Nat}

theorem RdL.one {vs : List Value} {d : D} (r : RdL G s.heap vs [d]) : ∃ v, vs = [v] ∧ Rd G s.heap v d := r.consK fun v _ x y => y.nilK ⟨v, rfl, x⟩
theorem RdL.two {vs : List Value} {d e : D} (r : RdL G s.heap vs [d, e]) : ∃ v w, vs = [v, w] ∧ Rd G s.heap v d ∧ Rd G s.heap w e := r.consK fun v _ x y => let ⟨w, e, z⟩ := y.one; ⟨v, w, e ▸ rfl, x, z⟩
theorem RdL.three {vs : List Value} {d e f : D} (r : RdL G s.heap vs [d, e, f]) : ∃ v w x, vs = [v, w, x] ∧ Rd G s.heap v d ∧ Rd G s.heap w e ∧ Rd G s.heap x f := r.consK fun v _ x y => let ⟨w, z, e, a, b⟩ := y.two; ⟨v, w, z, e ▸ rfl, x, a, b⟩

theorem ints_of : ∀ {vs : List Value} {ds : List D} {l : List Int}, RdL G s.heap vs ds → intsOf ds = some l → (∀ v ∈ vs, ∃ a t, v = Value.int a t) ∧ numsOf vs = l
  | _, [], _, r, h => r.nilK ⟨fun _ hv => (nomatch hv), Option.some.inj h⟩
  | _, d :: ds, l, r, h => by
    refine r.consK fun v vs x y => ?_
    unfold intsOf at h
    split at h <;> first | exact nsd h | skip
    · rename_i e; cases e
    · rename_i e; obtain ⟨rfl, rfl⟩ := List.cons.inj e
      split at h
      · rename_i l' hr
        obtain ⟨h1, h2⟩ := ints_of y hr
        refine x.intK fun t => ⟨fun v hv => (List.mem_cons.mp hv).elim (fun q => ⟨_, t, q⟩) (h1 v), ?_⟩
        rw [← Option.some.inj h, ← h2]; rfl
      · exact nsd h
theorem len_lst_ok {l : Addr} {items : Array Value} {n : Nat} {ds : List D} (st : St B G s) (hl : LstAt s.heap l items n) (hd : RdL G s.heap items.toList ds) (hs : (ds.length : Int) < 2 ^ 63)
    (hQ : Post B G s (.int ds.length) Q) : WP B A (call (.builtin "len") [.ref l]) Q E s := by
  have e := hd.size
  refine ⟨@PyProof.Rows.len_list _ _ _ _ _ _ _ _ (LstAt.is hl) (by rw [e]; exact hs) ?_⟩
  rw [e]; exact hQ.tok st (.int _ _) (by omega)

theorem sum_ok {l : Addr} {items : Array Value} {n : Nat} {ds : List D} {ns : List Int} (rm : Room m A) (st : St B G s) (hl : LstAt s.heap l items n) (hd : RdL G s.heap items.toList ds) (hi : intsOf ds = some ns)
    (hQ : Post B G s (.int ns.sum) Q) : WP B A (call (.builtin "sum") [.ref l]) Q E s := by
  obtain ⟨h1, h2⟩ := ints_of hd hi
  obtain ⟨xs, hx⟩ := AllInts.items (vs := items) fun v hv => h1 v (Array.mem_toList_iff.mpr hv)
  subst hx
  refine WP.mt ⟨@sum_intListG _ _ _ _ _ _ _ _ rm.hd (LstAt.is hl) fun h' tk t' hk htk hsz => ?_⟩
  have e : preSum (numAt xs) xs.size = ns.sum := by
    rw [preSum_eq, List.take_of_length_le (by simp), ← h2, nums_intItems]
  rw [e]
  exact hQ _ _ _ (Ke.of st hk htk hsz) (.int _ _)

/-- three floats side by side -/
noncomputable def fl3 (a b c : UInt64) (i : Nat) : UInt64 := if i = 0 then a else if i = 1 then b else c
theorem fl3_at {a b c : UInt64} {t u x : Tok} : ∀ (i : Nat) v, (#[.float a t, .float b u, .float c x] : Array Value)[i]? = some v → ∃ t, v = .float (fl3 a b c i) t
  | 0, v, hv => ⟨t, (Option.some.inj hv).symm⟩
  | 1, v, hv => ⟨u, (Option.some.inj hv).symm⟩
  | 2, v, hv => ⟨x, (Option.some.inj hv).symm⟩
  | i + 3, v, hv => nsd ((Array.getElem?_eq_none (xs := (#[.float a t, .float b u, .float c x] : Array Value)) (i := i + 3) (Nat.le_add_left 3 i)).symm.trans hv)
theorem best3 (f : UInt64 → UInt64 → Bool) (a b c : UInt64) : ∃ i, argBest (fun i j => f (fl3 a b c i) (fl3 a b c j)) (3 - 1) = i ∧ fl3 a b c i = (if f b a then (if f c b then c else b) else (if f c a then c else a)) ∧ i < 3 := by
  show ∃ i, (if f c (fl3 a b c (if f b a then 1 else 0)) then 2 else if f b a then 1 else 0) = i ∧ _
  cases h1 : f b a <;> simp only [if_true, if_false, Bool.false_eq_true]
  · show ∃ i, (if f c a then 2 else 0) = i ∧ _
    cases h2 : f c a
    · exact ⟨0, rfl, rfl, by decide⟩
    · exact ⟨2, rfl, rfl, by decide⟩
  · show ∃ i, (if f c b then 2 else 1) = i ∧ _
    cases h2 : f c b
    · exact ⟨1, rfl, rfl, by decide⟩
    · exact ⟨2, rfl, rfl, by decide⟩
theorem best3_rd {G : Gh} {h : Heap} {f : UInt64 → UInt64 → Bool} {a b c : UInt64} {t u x : Tok} {v : Value} (ra : Rd G h (.float a t) (.flt a)) (rb : Rd G h (.float b u) (.flt b)) (rc : Rd G h (.float c x) (.flt c))
    (hv : (#[.float a t, .float b u, .float c x] : Array Value)[argBest (fun i j => f (fl3 a b c i) (fl3 a b c j)) (3 - 1)]? = some v) : Rd G h v (.flt (if f b a then (if f c b then c else b) else (if f c a then c else a))) := by
  obtain ⟨i, hi, hfl, hlt⟩ := best3 f a b c
  rw [hi] at hv
  rw [← hfl]
  match i, hv with
  | 0, hv => exact Option.some.inj hv ▸ ra
  | 1, hv => exact Option.some.inj hv ▸ rb
  | 2, hv => exact Option.some.inj hv ▸ rc
  | i + 3, _ => exact absurd hlt (Nat.not_lt.mpr (Nat.le_add_left 3 i))
theorem new_tup (h : Heap) (items : Array Value) : (h.push { cls := .type "tuple", data := .seq items }).IsTuple h.objs.size items ∧ (h.push { cls := .type "tuple", data := .seq items }).objs.size = h.objs.size + 1 :=
  ⟨⟨_, Heap.get?_push_size _ rfl, rfl, 0, rfl⟩, Heap.size_push ..⟩
theorem three_lt {h : Heap} {o o' : Obj} : ∀ d ∈ [h.objs.size + 1, h.objs.size], d < ((h.push o).push o').objs.size := fun d hd => by
  rw [Heap.size_push, Heap.size_push]
  rcases List.mem_cons.mp hd with rfl | hd
  · exact Nat.lt_succ_self _
  · rw [List.mem_singleton.mp hd]; exact Nat.lt_succ_of_lt (Nat.lt_succ_self _)
theorem three_old {h h' : Heap} {o o' : Obj} (hk : ∀ d ob, d ∉ [h.objs.size + 1] → ((h.push o).push o').get? d = some ob → h'.get? d = some ob) : ∀ d ob, h.get? d = some ob → h'.get? d = some ob := fun d ob e =>
  hk d ob (fun hm => Nat.lt_irrefl _ (Nat.lt_of_succ_lt (List.mem_singleton.mp hm ▸ Heap.lt_size e))) (Heap.get?_push_of_some _ (Heap.get?_push_of_some _ e))
theorem max3_ok {a b c : UInt64} {t u x : Tok} (rm : Room m A) (st : St B G s) (ra : Rd G s.heap (.float a t) (.flt a)) (rb : Rd G s.heap (.float b u) (.flt b)) (rc : Rd G s.heap (.float c x) (.flt c))
    (hQ : Post B G s (.flt (if fgt b a then (if fgt c b then c else b) else (if fgt c a then c else a))) Q) : WP B A (call (.builtin "max") [.float a t, .float b u, .float c x]) Q E s := by
  obtain ⟨hT, hsz⟩ := new_tup s.heap #[.float a t, .float b u, .float c x]
  refine WP.mt ⟨@call_max_three _ _ _ _ _ _ _ _ _ (@wpAny_pyIter_tuple _ _ _ _ _ _ _ _ hT ?_)⟩
  rw [hsz]
  refine ⟨_, [_, s.heap.objs.size], [_], 3, _, _, fun i j => fgt (fl3 a b c i) (fl3 a b c j), rfl, Walks.tuple (A := A.in1) rm.hd _ s.heap.objs.size (Nat.ne_of_lt (Nat.lt_succ_self _)) #[.float a t, .float b u, .float c x],
    ⟨⟨_, hsz ▸ Heap.get?_push_size _ rfl, rfl, rfl⟩, hT.push _⟩, three_lt, by decide, fun i j vi vj s' Q' E' hi hj hq => ?_, fun v h' tk hv hk htk hz => ?_⟩
  · obtain ⟨ti, rfl⟩ := fl3_at i vi hi
    obtain ⟨tj, rfl⟩ := fl3_at j vj hj
    exact @AutoFloatOps.gt_0 _ _ _ _ _ _ _ _ _ _ hq
  · have ke : Ke B G s G { s with heap := h', toks := tk } := Ke.of st (three_old hk) htk hz
    exact hQ v _ _ ke (best3_rd (ra.ke st ke) (rb.ke st ke) (rc.ke st ke) hv)
theorem min3_ok {a b c : UInt64} {t u x : Tok} (rm : Room m A) (st : St B G s) (ra : Rd G s.heap (.float a t) (.flt a)) (rb : Rd G s.heap (.float b u) (.flt b)) (rc : Rd G s.heap (.float c x) (.flt c))
    (hQ : Post B G s (.flt (if flt' b a then (if flt' c b then c else b) else (if flt' c a then c else a))) Q) : WP B A (call (.builtin "min") [.float a t, .float b u, .float c x]) Q E s := by
  obtain ⟨hT, hsz⟩ := new_tup s.heap #[.float a t, .float b u, .float c x]
  refine WP.mt ⟨@call_min_three _ _ _ _ _ _ _ _ _ (@wpAny_pyIter_tuple _ _ _ _ _ _ _ _ hT ?_)⟩
  rw [hsz]
  refine ⟨_, [_, s.heap.objs.size], [_], 3, _, _, fun i j => flt' (fl3 a b c i) (fl3 a b c j), rfl, Walks.tuple (A := A.in1) rm.hd _ s.heap.objs.size (Nat.ne_of_lt (Nat.lt_succ_self _)) #[.float a t, .float b u, .float c x],
    ⟨⟨_, hsz ▸ Heap.get?_push_size _ rfl, rfl, rfl⟩, hT.push _⟩, three_lt, by decide, fun i j vi vj s' Q' E' hi hj hq => ?_, fun v h' tk hv hk htk hz => ?_⟩
  · obtain ⟨ti, rfl⟩ := fl3_at i vi hi
    obtain ⟨tj, rfl⟩ := fl3_at j vj hj
    exact @AutoFloatOps.lt_0 _ _ _ _ _ _ _ _ _ _ hq
  · have ke : Ke B G s G { s with heap := h', toks := tk } := Ke.of st (three_old hk) htk hz
    exact hQ v _ _ ke (best3_rd (ra.ke st ke) (rb.ke st ke) (rc.ke st ke) hv)

theorem type_ok {v : Value} {d : D} {n : String} (st : St B G s) (r : Rd G s.heap v d) (h : typeD d = some n) (hQ : Post B G s (.typ n) Q) : WP B A (call (.type "type") [v]) Q E s := by
  unfold typeD at h
  split at h
  · refine r.strK fun t => ⟨@call_type_of _ _ _ _ _ _ _ _ (typeIs_str _ _ _) (by decide) ?_⟩; rw [← Option.some.inj h] at hQ; exact hQ.val st (.typ _)
  · refine r.intK fun t => ⟨@call_type_of _ _ _ _ _ _ _ _ (typeIs_int _ _ _) (by decide) ?_⟩; rw [← Option.some.inj h] at hQ; exact hQ.val st (.typ _)
  · refine r.lstK fun a items n ha hl hd => ⟨@call_type_of _ _ _ _ _ _ _ _ (LstAt.is hl).typeIs (by decide) ?_⟩; rw [← Option.some.inj h] at hQ; exact hQ.val st (.typ _)
  · exact nsd h

theorem fin_nan {x : UInt64} (hf : Float64.isFinite x = true) (q : Float64.isNaN x = true) : False := by
  unfold Float64.isFinite at hf; unfold Float64.isNaN at q; cases hd : Float64.decode x <;> simp [hd] at hf q
theorem fin_inf {x : UInt64} (hf : Float64.isFinite x = true) (q : Float64.isInf x = true) : False := by
  unfold Float64.isFinite at hf; unfold Float64.isInf at q; cases hd : Float64.decode x <;> simp [hd] at hf q
theorem lenP_ok {v : Value} {x d : D} (st : St B G s) (r : Rd G s.heap v x) (h : lenP x = some d) (hQ : Post B G s d Q) : WP B A (call (.builtin "len") [v]) Q E s := by
  unfold lenP at h
  split at h
  · exact ifT h fun hs h => r.lstK fun a items n ha hl hd => len_lst_ok st hl hd hs (hQ.of h)
  · exact ifT h fun hs h => r.strK fun t => ⟨@P.len_str _ _ _ _ _ _ _ _ (by omega) ((hQ.of h).tok st (.int _ _) (by omega))⟩
  · exact nsd h
theorem sumP_ok {v : Value} {x d : D} (rm : Room m A) (st : St B G s) (r : Rd G s.heap v x) (h : sumP x = some d) (hQ : Post B G s d Q) : WP B A (call (.builtin "sum") [v]) Q E s := by
  unfold sumP at h
  split at h
  · split at h
    · rename_i hi; exact r.lstK fun a items n ha hl hd => sum_ok rm st hl hd hi (hQ.of h)
    · exact nsd h
  · exact nsd h
theorem intP_ok {v : Value} {x d : D} (rm : Room m A) (st : St B G s) (r : Rd G s.heap v x) (h : intP x = some d) (hQ : Post B G s d Q) : WP B A (call (.type "int") [v]) Q E s := by
  unfold intP at h
  split at h
  · exact ifT h fun hf h => r.fltK fun t _ _ _ => ⟨@PySem.Flt.call_int_float3 _ _ _ _ _ _ _ _ rm.hd (fun q => (fin_nan hf q).elim) (fun q => (fin_inf hf q).elim) fun _ => (hQ.of h).tok1 st (.int _ _)⟩
  · exact r.boolK ⟨@call_int_bool _ _ _ _ _ _ _ ((hQ.of h).tok1 st (.int _ _))⟩
  · split at h
    · rename_i hi; exact ifT h fun hl h => r.strK fun t => ⟨@PySem.W.KIN.call_text _ _ _ _ _ _ _ _ _ hi hl ((hQ.of h).tok1 st (.int _ _))⟩
    · exact nsd h
  · exact nsd h
theorem rng_post {a b : Int} {t u w : Tok} {n : Nat} (st : St B G s) (hn : s.toks ≤ n) {o : Obj} (hI : IsRange (s.heap.push o) s.heap.objs.size a b 1 t u w) (hQ : Post B G s (.rng a b) Q) : Q (.ref s.heap.objs.size) { s with heap := s.heap.push o, toks := n } :=
  hQ _ _ _ (Ke.push st o hn) (.rng (st.fresh (Nat.le_refl _)) hI)
theorem rd_two {vs : List Value} {ds : List D} {p : Int × Int} (r : RdL G s.heap vs ds) (h : two intOf1 intOf1 ds = some p) : ∃ t u, vs = [.int p.1 t, .int p.2 u] := by
  obtain ⟨a, b, rfl, h1, h2⟩ := two_eq h
  obtain ⟨v, w, rfl, rv, rw'⟩ := r.two
  rw [intOf1_eq h1] at rv; rw [intOf1_eq h2] at rw'
  exact rv.intK fun t => rw'.intK fun u => ⟨t, u, rfl⟩
theorem rd_flts {vs : List Value} {ds : List D} {p : UInt64 × UInt64 × UInt64} (r : RdL G s.heap vs ds) (h : three fltOf1 fltOf1 fltOf1 ds = some p) : ∃ t u x, vs = [.float p.1 t, .float p.2.1 u, .float p.2.2 x] ∧ Rd G s.heap (.float p.1 t) (.flt p.1) ∧ Rd G s.heap (.float p.2.1 u) (.flt p.2.1) ∧ Rd G s.heap (.float p.2.2 x) (.flt p.2.2) := by
  obtain ⟨a, b, c, rfl, h1, h2, h3⟩ := three_eq h
  obtain ⟨v, w, x, rfl, r1, r2, r3⟩ := r.three
  rw [fltOf1_eq h1] at r1; rw [fltOf1_eq h2] at r2; rw [fltOf1_eq h3] at r3
  exact r1.fltK fun t a1 a2 a3 => r2.fltK fun u b1 b2 b3 => r3.fltK fun x c1 c2 c3 => ⟨t, u, x, rfl, .flt a1 a2 a3, .flt b1 b2 b3, .flt c1 c2 c3⟩
theorem rangeP_ok {vs : List Value} {ds : List D} {d : D} (st : St B G s) (r : RdL G s.heap vs ds) (h : rangeP ds = some d) (hQ : Post B G s d Q) : WP B A (call (.type "range") vs) Q E s := by
  unfold rangeP at h
  split at h
  · rename_i hs
    obtain ⟨d1, rfl, h1⟩ := sole_eq hs
    obtain ⟨v, rfl, rv⟩ := r.one
    rw [intOf1_eq h1] at rv
    exact rv.intK fun t => ⟨@call_range_1 _ _ _ _ _ _ _ _ (rng_post st (by omega) (Heap.get?_push_size _ rfl) (hQ.of h))⟩
  · split at h
    · rename_i hs
      obtain ⟨t, u, rfl⟩ := rd_two r hs
      exact ⟨@call_range_2 _ _ _ _ _ _ _ _ _ _ (rng_post st (by omega) (Heap.get?_push_size _ rfl) (hQ.of h))⟩
    · exact nsd h
theorem int_pick {c : Prop} [Decidable c] {a b : Int} {t u : Tok} : Rd G s.heap (if c then .int a t else .int b u) (.int (if c then a else b)) := by
  by_cases hc : c
  · rw [if_pos hc, if_pos hc]; exact .int _ _
  · rw [if_neg hc, if_neg hc]; exact .int _ _
theorem minP_ok {vs : List Value} {ds : List D} {d : D} (rm : Room m A) (st : St B G s) (r : RdL G s.heap vs ds) (h : minP ds = some d) (hQ : Post B G s d Q) : WP B A (call (.builtin "min") vs) Q E s := by
  unfold minP at h
  split at h
  · rename_i hs
    obtain ⟨t, u, rfl⟩ := rd_two r hs
    exact WP.mt ⟨@min_two_ints _ _ _ _ _ _ _ _ _ _ rm.hd fun h' tk hk ht hz => (hQ.of h) _ _ _ (Ke.of st hk ht hz) int_pick⟩
  · split at h
    · rename_i hs
      obtain ⟨t, u, x, rfl, r1, r2, r3⟩ := rd_flts r hs
      exact min3_ok rm st r1 r2 r3 (hQ.of h)
    · exact nsd h
theorem maxP_ok {vs : List Value} {ds : List D} {d : D} (rm : Room m A) (st : St B G s) (r : RdL G s.heap vs ds) (h : maxP ds = some d) (hQ : Post B G s d Q) : WP B A (call (.builtin "max") vs) Q E s := by
  unfold maxP at h
  split at h
  · rename_i hs
    obtain ⟨t, u, rfl⟩ := rd_two r hs
    exact WP.mt ⟨@max_two_ints _ _ _ _ _ _ _ _ _ _ rm.hd fun h' tk hk ht hz => (hQ.of h) _ _ _ (Ke.of st hk ht hz) int_pick⟩
  · split at h
    · rename_i hs
      obtain ⟨t, u, x, rfl, r1, r2, r3⟩ := rd_flts r hs
      exact max3_ok rm st r1 r2 r3 (hQ.of h)
    · exact nsd h
theorem divmodP_ok {vs : List Value} {ds : List D} {d : D} (st : St B G s) (r : RdL G s.heap vs ds) (h : divmodP ds = some d) (hQ : Post B G s d Q) : WP B A (call (.builtin "divmod") vs) Q E s := by
  unfold divmodP at h
  split at h
  · rename_i hs
    obtain ⟨t, u, rfl⟩ := rd_two r hs
    refine ifF h fun hc h => ?_
    rw [not_or] at hc
    refine ⟨@PyProof.Rows.divmod_int _ _ _ _ _ _ _ _ _ _ hc.1 ?_ (.inl (by simpa using hc.2))⟩
    have k1 : Ke B G s G { s with toks := s.toks + 1 + 1 } := Ke.tok st (Nat.le_add_right _ 2)
    exact Post.newT ((hQ.of h).after k1) (st.ke k1) (.cons (.int _ _) (.cons (.int _ _) .nil))
  · exact nsd h
theorem absP_ok {v : Value} {x d : D} (st : St B G s) (r : Rd G s.heap v x) (h : absP x = some d) (hQ : Post B G s d Q) : WP B A (call (.builtin "abs") [v]) Q E s := by
  unfold absP at h
  split at h
  · exact r.intK fun t => WP.mt ⟨@call_abs_int _ _ _ _ _ _ _ _ fun u tk ht _ => (hQ.of h).tok st (.int _ _) ht⟩
  · exact nsd h
theorem roundP_ok {v : Value} {x d : D} (rm : Room m A) (st : St B G s) (r : Rd G s.heap v x) (h : roundP x = some d) (hQ : Post B G s d Q) : WP B A (call (.builtin "round") [v]) Q E s := by
  unfold roundP at h
  split at h
  · exact ifT h fun hf h => r.fltK fun t _ _ _ => ⟨@PySem.Flt.call_round_float _ _ _ _ _ _ _ _ rm.hd (fun q => (fin_nan hf q).elim) (fun q => (fin_inf hf q).elim) fun _ => (hQ.of h).tok1 st (.int _ _)⟩
  · exact nsd h
theorem strP1_ok {v : Value} {x d : D} (st : St B G s) (r : Rd G s.heap v x) (h : strP1 x = some d) (hQ : Post B G s d Q) : WP B A (call (.type "str") [v]) Q E s := by
  unfold strP1 at h
  split at h
  · exact ifT h fun hl h => r.intK fun t => ⟨@P.str_of_int _ _ _ _ _ _ _ _ hl ((hQ.of h).tok1 st (.str _ _))⟩
  · exact nsd h
theorem typP_ok {v : Value} {x d : D} (st : St B G s) (r : Rd G s.heap v x) (h : typP x = some d) (hQ : Post B G s d Q) : WP B A (call (.type "type") [v]) Q E s := by
  unfold typP at h
  split at h
  · rename_i hi; exact type_ok st r hi (hQ.of h)
  · exact nsd h
theorem primD_ok {p : Pr} {vs : List Value} {ds : List D} {d : D} (rm : Room m A) (st : St B G s) (r : RdL G s.heap vs ds) (h : primD p ds = some d) (hQ : Post B G s d Q) : WP B A (call p.val vs) Q E s := by
  unfold primD at h
  split at h
  · rename_i ho
    split at h
    · obtain ⟨v, rfl, rv⟩ := r.one
      cases p
      case len => exact lenP_ok st rv h hQ
      case sum => exact sumP_ok rm st rv h hQ
      case range => cases ho
      case abs => exact absP_ok st rv h hQ
      case min => cases ho
      case max => cases ho
      case round => exact roundP_ok rm st rv h hQ
      case int => exact intP_ok rm st rv h hQ
      case str => exact strP1_ok st rv h hQ
      case tuple => exact nsd h
      case all => exact nsd h
      case divmod => cases ho
      case type => exact typP_ok st rv h hQ
    · exact nsd h
  · cases p <;> first | exact nsd h | exact rangeP_ok st r h hQ | exact minP_ok rm st r h hQ | exact maxP_ok rm st r h hQ | exact divmodP_ok st r h hQ
end
end Mine

end
section
open PySem PySem.W PyProof.Rows
set_option Elab.async false
namespace Mine
open PySem.SeqAt

/-! items and slices -/
noncomputable def itemD (a b : D) : Option D := match b with
  | .int k => match a with
    | .lst xs => if 0 ≤ k ∧ k < 2 ^ 63 then xs[k.toNat]? else none
    | .tup xs => if 0 ≤ k ∧ k < 2 ^ 63 then xs[k.toNat]? else none
    | .str x => if fitsSsize k = true ∧ (Txt.charAt x k).isSome = true then some (.str (Txt.item x k)) else none
    | _ => none
  | _ => none

noncomputable def pick {α : Type} (xs : List α) (lo hi st : Option Int) : List α :=
  (sliceRange (sliceBounds lo hi st xs.length).1 (sliceBounds lo hi st xs.length).2.1 (sliceBounds lo hi st xs.length).2.2).filterMap (xs[·]?)
noncomputable def sliceD (a : D) (lo hi st : Option Int) : Option D := match a with
  | .lst xs => if st = some 0 ∨ sizeLine < xs.length then none else some (.lst (pick xs lo hi st))
  | .str x => match st with
    | none => if x.length ≤ sizeLine then some (.str (Txt.slice x lo hi)) else none
    | some _ => none
  | _ => none
noncomputable def partD : D → Option (Option Int)
  | .none => some none
  | .int i => some (some i)
  | _ => none

section
variable {B : Bs} {A : Around} {G : Gh} {s : Shared} {Q : Value → Shared → Prop} {E : Value → Shared → Prop} {m : Nat}

theorem RdL.pick {vs : List Value} {ds : List D} (r : RdL G s.heap vs ds) : ∀ (l : List Nat), RdL G s.heap (l.filterMap (vs[·]?)) (l.filterMap (ds[·]?))
  | [] => .nil
  | i :: l => by
    cases hd : ds[i]? with
    | none =>
      have hv : vs[i]? = none := by
        rw [List.getElem?_eq_none_iff] at hd ⊢; rw [r.length]; exact hd
      rw [List.filterMap_cons_none hv, List.filterMap_cons_none hd]; exact RdL.pick r l
    | some d =>
      obtain ⟨v, hv, rv⟩ := r.get hd
      rw [List.filterMap_cons_some hv, List.filterMap_cons_some hd]; exact .cons rv (RdL.pick r l)

theorem item_ok {value slice : Expr} {o i : Value} {a b d : D} (st : St B G s) (ro : Rd G s.heap o a) (ri : Rd G s.heap i b) (h : itemD a b = some d) (hs : ∀ o i, subscripted slice false o i = operate [o, i] (getItem o i)) (hQ : Post B G s d Q) :
    WP B A (subscriptTail value slice o i) Q E s := by
  unfold itemD at h
  split at h
  · rename_i k
    refine ri.intK fun u => ?_
    split at h
    · refine ifT h fun hk h => ro.lstK fun l items n ha hl hd => ?_
      obtain ⟨v, hv, rv⟩ := hd.get h
      exact ⟨@tail_any _ _ _ _ _ _ _ _ _ _ _ _ _ (LstAt.is hl).typeIs slot_list_getitem.lookup (@wpAny_getItem_list _ _ _ _ _ _ _ _ _ _ _ (LstAt.is hl) hk.1 hk.2 (by rw [← Array.getElem?_toList]; exact hv) (hQ.val st rv)) (hs _ _)⟩
    · refine ifT h fun hk h => ro.tupK fun l items n ha hl hd => ?_
      obtain ⟨v, hv, rv⟩ := hd.get h
      have hlt : k.toNat < items.size := by rw [← Array.length_toList]; exact (List.getElem?_eq_some_iff.mp hv).1
      have hj : seqIndex? k items.size = some k.toNat := by
        unfold seqIndex?
        have e : (if k < 0 then k + (items.size : Int) else k) = k := if_neg (by omega)
        simp only [e]
        rw [if_pos (by simp; omega)]
      exact ⟨@tail_any _ _ _ _ _ _ _ _ _ _ _ _ _ (TupAt.is hl).typeIs F.slot_tuple_getitem.lookup (@P.getItem_tuple _ _ _ _ _ _ _ _ _ _ _ _ _ hl (by omega) hk.2 hj (by rw [← Array.getElem?_toList]; exact hv) (hQ.val st rv)) (hs _ _)⟩
    · exact ifT h fun hk h => ro.strK fun t => ⟨@tail_any _ _ _ _ _ _ _ _ _ _ _ _ _ (typeIs_str _ _ _) F.slot_str_getitem.lookup (@SB.getItem _ _ _ _ _ _ _ _ _ _ hk.1 hk.2 ((hQ.of h).tok1 st (.str _ _))) (hs _ _)⟩
    · exact nsd h
  · exact nsd h

theorem part_ok {v : Value} {d : D} {p : Option Int} (r : Rd G s.heap v d) (h : partD d = some p) : IsPart v p ∧ ∃ q : Option (Int × Tok), v = partValue q ∧ q.map (·.1) = p := by
  unfold partD at h
  split at h
  · exact r.noneK (Option.some.inj h ▸ ⟨.none, none, rfl, rfl⟩)
  · exact r.intK fun t => Option.some.inj h ▸ ⟨.int _ _, some (_, t), rfl, rfl⟩
  · exact nsd h

/-- the slice object lies new -/
theorem slice_ok {value slice : Expr} {o vl vu vs : Value} {a dl du ds d : D} {lo hi sp : Option Int} (st : St B G s) (ro : Rd G s.heap o a) (rl : Rd G s.heap vl dl) (ru : Rd G s.heap vu du) (rs : Rd G s.heap vs ds)
    (hl : partD dl = some lo) (hu : partD du = some hi) (hp : partD ds = some sp) (h : sliceD a lo hi sp = some d)
    (hs : ∀ o i, ∃ ops, subscripted slice false o i = operate ops (getItem o i)) (hQ : Post B G s d Q) :
    WP B A (subscriptTail value slice o (.ref s.heap.objs.size)) Q E { s with heap := s.heap.push { cls := .type "slice", data := .fields #[vl, vu, vs] } } := by
  have k1 : Ke B G s G { s with heap := s.heap.push { cls := .type "slice", data := .fields #[vl, vu, vs] } } := Ke.push st _ (Nat.le_refl _)
  have st1 := st.ke k1
  have hsl : (s.heap.push { cls := .type "slice", data := .fields #[vl, vu, vs] }).IsSliceOf s.heap.objs.size vl vu vs := Heap.IsSliceOf.new _ _ _ _
  have ro1 := ro.ke st k1
  obtain ⟨ops, ho⟩ := hs o (.ref s.heap.objs.size)
  unfold sliceD at h
  split at h
  · rename_i xs
    refine ifF h fun hc h => ?_
    revert ho
    refine ro1.lstK fun l items n ha hll hd ho => ?_
    rw [not_or] at hc
    have e := hd.size
    refine ⟨@tail_any _ _ _ _ _ _ _ _ _ _ _ _ _ (LstAt.is hll).typeIs slot_list_getitem.lookup (@wpAny_getItem_list_slice _ _ _ _ _ _ _ _ _ _ _ _ _ _ _ (LstAt.is hll) hsl (part_ok rl hl).1 (part_ok ru hu).1 (part_ok rs hp).1 hc.1 (Post.newL ((hQ.of h).after k1) st1 ?_) (by rw [e]; omega)) ho⟩
    unfold slicePick Mine.pick
    rw [e]
    have := RdL.pick (s := { s with heap := s.heap.push { cls := .type "slice", data := .fields #[vl, vu, vs] } }) hd (sliceRange (sliceBounds lo hi sp xs.length).1 (sliceBounds lo hi sp xs.length).2.1 (sliceBounds lo hi sp xs.length).2.2)
    have e2 : (fun i : Nat => items.toList[i]?) = fun i : Nat => items[i]? := funext fun i => Array.getElem?_toList ..
    rw [e2] at this
    exact this
  · rename_i x
    split at h
    · refine ifT h fun hz h => ?_
      replace hQ := hQ.of h
      obtain ⟨_, ql, rfl, hql⟩ := part_ok rl hl
      obtain ⟨_, qu, rfl, hqu⟩ := part_ok ru hu
      obtain ⟨_, qs, hqs, hqs'⟩ := part_ok rs hp
      have : qs = none := by cases qs with | none => rfl | some _ => cases hqs'
      subst this
      subst hqs
      revert ho
      refine ro1.strK fun t ho => ?_
      refine WP.mt ⟨@tail_any _ _ _ _ _ _ _ _ _ _ _ _ _ (typeIs_str _ _ _) F.slot_str_getitem.lookup (wpAny_getItem_str_slice (l := ql) (u := qu) (st := none) ⟨_, Heap.get?_push_size _ rfl, rfl, rfl⟩ rfl ?_) ho⟩
      unfold sliceMade
      have e : slicePicked x ql qu none = Builtin.Str.strSliceIndices lo hi 1 x.length := by unfold slicePicked; rw [hql, hqu]; rfl
      rw [e]
      show Made.post (if ((1 : Int) == 1 && (Builtin.Str.strSliceIndices lo hi 1 x.length).length == x.length) = true then Made.val (.str x t) else _) _ _
      unfold Txt.slice at hQ
      by_cases hw : ((1 : Int) == 1 && (Builtin.Str.strSliceIndices lo hi 1 x.length).length == x.length) = true
      · rw [if_pos hw] at hQ ⊢
        exact fun ht hz => hQ _ _ _ k1 (.str _ _)
      · rw [if_neg hw] at hQ ⊢
        refine ⟨?_, fun ht hz => (hQ.after k1).tok st1 (.str _ _) ht⟩
        have h1 := sliceIndices_le lo hi x.length
        have h2 := List.length_filterMap_le (fun i : Nat => x.cps[i]?) (Builtin.Str.strSliceIndices lo hi 1 x.length)
        show ((Builtin.Str.strSliceIndices lo hi 1 x.length).filterMap (x.cps[·]?)).toArray.size ≤ sizeLine
        rw [List.size_toArray]; omega
    · exact nsd h
  · exact nsd h
end

/-! methods -/
inductive Mt where
  | upper | lower | join | bitlen | index
noncomputable def mtTab : List (Str × Mt) := [("upper", .upper), ("lower", .lower), ("join", .join), ("bit_length", .bitlen), ("index", .index)]
noncomputable def upM : D → Option D
  | .str x => match Builtin.Str.tooLong (Txt.upper x).length with
    | true => none
    | false => some (.str (Txt.upper x))
  | _ => none
noncomputable def lowM : D → Option D
  | .str x => match Builtin.Str.tooLong (Txt.lower x).length with
    | true => none
    | false => some (.str (Txt.lower x))
  | _ => none
noncomputable def bitM : D → Option D
  | .int a => some (.int (Builtin.Int.intBits a))
  | _ => none
noncomputable def methD (t : Mt) (d : D) (ds : List D) : Option D := match ds with
  | [] => match t with
    | .upper => upM d
    | .lower => lowM d
    | .bitlen => bitM d
    | _ => none
  | _ => none

section
variable {B : Bs} {A : Around} {G : Gh} {s : Shared} {Q : Value → Shared → Prop} {E : Value → Shared → Prop} {m : Nat}
noncomputable def Mt.id : Mt → String
  | .upper => "str.upper" | .lower => "str.lower" | .join => "str.join" | .bitlen => "int.bit_length" | .index => "list.index"
noncomputable def Mt.T : Mt → String
  | .upper => "str" | .lower => "str" | .join => "str" | .bitlen => "int" | .index => "list"
noncomputable def Mt.name : Mt → Str
  | .upper => "upper" | .lower => "lower" | .join => "join" | .bitlen => "bit_length" | .index => "index"
theorem mt_facts (t : Mt) : PlainAttrs t.T ∧ Slot t.T t.name t.id ∧ typeOf (.builtin t.id) = pure (.type "method_descriptor") := by
  cases t
  · exact ⟨F.plainAttrs_str, F.slot_str_upper, F.type_str_upper⟩
  · exact ⟨F.plainAttrs_str, F.slot_str_lower, F.type_str_lower⟩
  · exact ⟨F.plainAttrs_str, F.slot_str_join, F.type_str_join⟩
  · exact ⟨F.plainAttrs_int, F.slot_int_bit_length, F.type_int_bit_length⟩
  · exact ⟨F.plainAttrs_list, F.slot_list_index, F.type_list_index⟩
theorem mt_look {α : Type} {P : Prop} {x y : Str} {t u : α} {r : List (Str × α)} (h : look ((y, u) :: r) x = some t) (k1 : x = y → u = t → P) (k2 : look r x = some t → P) : P := by
  unfold look at h
  split at h
  · rename_i q; exact k1 (strEq_iff.mp q) (Option.some.inj h)
  · exact k2 h
theorem mtTab_name {x : Str} {t : Mt} (h : look mtTab x = some t) : x = t.name :=
  mt_look h (fun e q => q ▸ e) fun h => mt_look h (fun e q => q ▸ e) fun h => mt_look h (fun e q => q ▸ e) fun h => mt_look h (fun e q => q ▸ e) fun h => mt_look h (fun e q => q ▸ e) fun h => nsd h
noncomputable def isStrD : D → Bool
  | .str _ => true
  | _ => false
noncomputable def isIntD : D → Bool
  | .int _ => true
  | _ => false
noncomputable def isLstD : D → Bool
  | .lst _ => true
  | _ => false
noncomputable def methT : Mt → D → Bool
  | .upper, d => isStrD d
  | .lower, d => isStrD d
  | .join, d => isStrD d
  | .bitlen, d => isIntD d
  | .index, d => isLstD d
theorem isStr_T {o : Value} {d : D} (r : Rd G s.heap o d) (h : isStrD d = true) : s.TypeIs o "str" ∧ (∀ a, o = .ref a → ∃ ob, s.heap.get? a = some ob ∧ ob.dict = none) := by
  unfold isStrD at h
  split at h
  · exact r.strK fun t => ⟨typeIs_str _ _ _, fun _ e => nomatch e⟩
  · cases h
theorem methT_ok {t : Mt} {o : Value} {d : D} (r : Rd G s.heap o d) (h : methT t d = true) : s.TypeIs o t.T ∧ (∀ a, o = .ref a → ∃ ob, s.heap.get? a = some ob ∧ ob.dict = none) := by
  cases t
  case upper => exact isStr_T r h
  case lower => exact isStr_T r h
  case join => exact isStr_T r h
  case bitlen =>
    replace h : isIntD d = true := h
    unfold isIntD at h
    split at h
    · exact r.intK fun t => ⟨typeIs_int _ _ _, fun _ e => nomatch e⟩
    · cases h
  case index =>
    replace h : isLstD d = true := h
    unfold isLstD at h
    split at h
    · exact r.lstK fun a items n ha hl _ => ⟨(LstAt.is hl).typeIs, fun b e => Value.ref.inj e ▸ ⟨_, hl, rfl⟩⟩
    · cases h
theorem upM_T {d r : D} (h : upM d = some r) : isStrD d = true := by
  unfold upM at h
  split at h
  · rfl
  · exact nsd h
theorem lowM_T {d r : D} (h : lowM d = some r) : isStrD d = true := by
  unfold lowM at h
  split at h
  · rfl
  · exact nsd h
theorem bitM_T {d r : D} (h : bitM d = some r) : isIntD d = true := by
  unfold bitM at h
  split at h
  · rfl
  · exact nsd h
theorem methD_T {t : Mt} {d r : D} {ds : List D} (h : methD t d ds = some r) : methT t d = true := by
  unfold methD at h
  split at h
  · cases t <;> first | exact nsd h | exact upM_T h | exact lowM_T h | exact bitM_T h
  · exact nsd h
theorem upM_ok {o : Value} {d r : D} (st : St B G s) (ro : Rd G s.heap o d) (h : upM d = some r) (hQ : Post B G s r Q) : WP B A (call (.builtin Mt.upper.id) [o]) Q E s := by
  unfold upM at h
  split at h
  · split at h
    · exact nsd h
    · rename_i hf
      exact ro.strK fun t => ⟨call_gives F.slot_str_upper (typeIs_str _ _ _) F.entry_str_upper (F.args_str_upper_1 _) (gives_str_upper _ _ hf) ⟨fit_le hf, (hQ.of h).tok1 st (.str _ _)⟩⟩
  · exact nsd h
theorem lowM_ok {o : Value} {d r : D} (st : St B G s) (ro : Rd G s.heap o d) (h : lowM d = some r) (hQ : Post B G s r Q) : WP B A (call (.builtin Mt.lower.id) [o]) Q E s := by
  unfold lowM at h
  split at h
  · split at h
    · exact nsd h
    · rename_i hf
      exact ro.strK fun t => ⟨call_gives F.slot_str_lower (typeIs_str _ _ _) F.entry_str_lower (F.args_str_lower_1 _) (gives_str_lower _ _ hf) ⟨fit_le hf, (hQ.of h).tok1 st (.str _ _)⟩⟩
  · exact nsd h
theorem bitM_ok {o : Value} {d r : D} (st : St B G s) (ro : Rd G s.heap o d) (h : bitM d = some r) (hQ : Post B G s r Q) : WP B A (call (.builtin Mt.bitlen.id) [o]) Q E s := by
  unfold bitM at h
  split at h
  · exact ro.intK fun t => ⟨@PyProof.Rows.call_int_bit_length _ _ _ _ _ _ _ _ ((hQ.of h).tok1 st (.int _ _))⟩
  · exact nsd h
theorem methD_ok {t : Mt} {o : Value} {vs : List Value} {d r : D} {ds : List D} (rm : Room m A) (st : St B G s) (ro : Rd G s.heap o d) (rs : RdL G s.heap vs ds) (h : methD t d ds = some r) (hQ : Post B G s r Q) :
    WP B A (call (.builtin t.id) (o :: vs)) Q E s := by
  unfold methD at h
  split at h
  · refine rs.nilK ?_
    cases t <;> first | exact nsd h | exact upM_ok st ro h hQ | exact lowM_ok st ro h hQ | exact bitM_ok st ro h hQ
  · exact nsd h
end
end Mine

end
section
open PySem PySem.W PyProof.Rows
set_option Elab.async false
namespace Mine

noncomputable abbrev Gm := List (Str × D)
noncomputable abbrev Kd := List (Str × NameKind)

noncomputable def put : Gm → Str → D → Gm
  | [], x, d => [(x, d)]
  | (y, e) :: r, x, d => match strEq x y with
    | true => (y, d) :: r
    | false => (y, e) :: put r x d
theorem look_put : ∀ (Γ : Gm) (x y : Str) (d : D), look (put Γ x d) y = if y = x then some d else look Γ y
  | [], x, y, d => by
    simp only [put, look]
    cases h : strEq y x with
    | true => have := strEq_iff.mp h; simp [this]
    | false => have : y ≠ x := fun e => by rw [strEq_iff.mpr e] at h; cases h
               simp [this]
  | (z, e) :: r, x, y, d => by
    simp only [put]
    cases h : strEq x z with
    | true =>
      have hz := strEq_iff.mp h; subst hz
      simp only [look]
      cases h2 : strEq y x with
      | true => simp [strEq_iff.mp h2]
      | false => have : y ≠ x := fun e => by rw [strEq_iff.mpr e] at h2; cases h2
                 simp [this]
    | false =>
      have hz : x ≠ z := fun e => by rw [strEq_iff.mpr e] at h; cases h
      simp only [look]
      cases h2 : strEq y z with
      | true => have := strEq_iff.mp h2; subst this; simp [Ne.symm hz]
      | false => simp only [look_put r x y d]

/-- the classes of names -/
inductive Kc where
  | no | loc | cel | glo
  deriving DecidableEq
noncomputable def kc : Option NameKind → Kc
  | some .local => .loc
  | some .cell => .cel
  | some .free => .cel
  | some .globalImplicit => .glo
  | _ => .no
/-- the table and the block agree -/
noncomputable def Kn (sc : Kd) (env : Env) : Prop := ∀ x, kc (look sc x) = kc (env.kindOf x)

inductive NsSee (G : Gh) (s : Shared) (env : Env) (Γ : Gm) : Prop
  | mk (m : Str → Option Value) (hm : s.heap.Ns env.locals m) (hd : ∀ x d, look Γ x = some d → env.kindOf x = some .local → ∃ v, m x = some v ∧ Rd G s.heap v d) : NsSee G s env Γ
inductive ClSee (B : Bs) (G : Gh) (s : Shared) (env : Env) (Γ : Gm) (x : Str) : Prop
  | mk (c : Addr) (hc : env.cells.lookup x = some c) (ht : c ∉ B.tb) (hz : c < s.heap.objs.size) (hd : ∀ d, look Γ x = some d → ∃ v, s.heap.IsCell c (some v) ∧ Rd G s.heap v d) : ClSee B G s env Γ x
structure Sees (B : Bs) (G : Gh) (s : Shared) (env : Env) (Γ : Gm) : Prop where
  st : St B G s
  kind : env.scope.kind = .function
  glob : env.globals = mainGlobals
  blt : env.builtins = builtinsNs
  lo : env.locals ∉ B.tb
  ns : NsSee G s env Γ
  cl : ∀ x, kc (env.kindOf x) = .cel → ClSee B G s env Γ x

theorem kc_loc {k : Option NameKind} (h : kc k = .loc) : k = some .local := by
  cases k with
  | none => cases h
  | some k => cases k <;> first | rfl | cases h
theorem kc_glo {k : Option NameKind} (h : kc k = .glo) : k = some .globalImplicit := by
  cases k with
  | none => cases h
  | some k => cases k <;> first | rfl | cases h
theorem kc_cel {k : Option NameKind} (h : kc k = .cel) : k = some .cell ∨ k = some .free := by
  cases k with
  | none => cases h
  | some k => cases k <;> first | exact .inl rfl | exact .inr rfl | cases h

section
variable {B : Bs} {A : Around} {G G' : Gh} {s s' : Shared} {env : Env} {Γ : Gm} {E : Value → Shared → Prop}
/-- what is not turned is still seen -/
theorem Sees.kw {W : List Addr} (x : Sees B G s env Γ) (k : Kw B W G s G' s') (hW : ∀ a ∈ W, a ∈ G.O) (h0 : ∀ a ∈ W, B.h0.get? a = none) (hl : env.locals ∉ W) (hc : ∀ y c, env.cells.lookup y = some c → c ∉ W) : Sees B G' s' env Γ := by
  have up := k.up x.st hW
  refine ⟨x.st.kw k h0, x.kind, x.glob, x.blt, x.lo, ?_, fun y hy => ?_⟩
  · obtain ⟨m, hm, hd⟩ := x.ns
    refine ⟨m, k.kp.ns (fun q => (List.mem_append.mp q).elim hl x.lo) hm, fun y d hy hk => ?_⟩
    obtain ⟨v, hv, r⟩ := hd y d hy hk
    exact ⟨v, hv, r.up up⟩
  · obtain ⟨c, hcl, hct, hcz, hd⟩ := x.cl y hy
    refine ⟨c, hcl, hct, Nat.lt_of_lt_of_le hcz k.sz, fun d hyd => ?_⟩
    obtain ⟨v, hv, r⟩ := hd d hyd
    exact ⟨v, k.kp.cell (fun q => (List.mem_append.mp q).elim (hc y c hcl) hct) hv, r.up up⟩
theorem Sees.ke (x : Sees B G s env Γ) (k : Ke B G s G' s') : Sees B G' s' env Γ := x.kw k (fun _ h => nomatch h) (fun _ h => nomatch h) (fun h => nomatch h) fun _ _ _ h => nomatch h
/-- less is known -/
theorem Sees.less {Γ' : Gm} (x : Sees B G s env Γ) (h : ∀ y d, look Γ' y = some d → look Γ y = some d) : Sees B G s env Γ' := by
  refine ⟨x.st, x.kind, x.glob, x.blt, x.lo, ?_, fun y hy => ?_⟩
  · obtain ⟨m, hm, hd⟩ := x.ns
    exact ⟨m, hm, fun y d hy hk => hd y d (h y d hy) hk⟩
  · obtain ⟨c, hcl, hct, hcz, hd⟩ := x.cl y hy
    exact ⟨c, hcl, hct, hcz, fun d hyd => hd d (h y d hyd)⟩
/-- another ghost over the same heap -/
theorem Sees.gh {G' : Gh} (x : Sees B G s env Γ) (st : St B G' s) (up : Up G s.heap G' s.heap) : Sees B G' s env Γ := by
  refine ⟨st, x.kind, x.glob, x.blt, x.lo, ?_, fun y hy => ?_⟩
  · obtain ⟨m, hm, hd⟩ := x.ns
    exact ⟨m, hm, fun y d hy hk => let ⟨v, hv, r⟩ := hd y d hy hk; ⟨v, hv, r.up up⟩⟩
  · obtain ⟨c, hcl, hct, hcz, hd⟩ := x.cl y hy
    exact ⟨c, hcl, hct, hcz, fun d hyd => let ⟨v, hv, r⟩ := hd d hyd; ⟨v, hv, r.up up⟩⟩

theorem load_loc {x : Str} {d : D} {Q : Value → Shared → Prop} (se : Sees B G s env Γ) (hk : env.kindOf x = some .local) (hd : look Γ x = some d) (hQ : Post B G s d Q) : WP B A (loadName env x) Q E s := by
  obtain ⟨m, hm, h⟩ := se.ns
  obtain ⟨v, hv, r⟩ := h x d hd hk
  exact ⟨@wpAny_loadName_local _ _ _ _ _ _ _ _ _ se.kind hk hm hv (hQ.val se.st r)⟩
theorem load_cel {x : Str} {d : D} {Q : Value → Shared → Prop} (se : Sees B G s env Γ) (hk : kc (env.kindOf x) = .cel) (hd : look Γ x = some d) (hx : (x == ("__classdict__" : Str)) = false) (hQ : Post B G s d Q) : WP B A (loadName env x) Q E s := by
  obtain ⟨c, hc, _, _, h⟩ := se.cl x hk
  obtain ⟨v, hv, r⟩ := h d hd
  rcases kc_cel hk with q | q
  · exact ⟨@wpAny_loadName_cell _ _ _ _ _ _ _ _ _ se.kind q hc hv (hQ.val se.st r)⟩
  · exact ⟨@wpAny_loadName_free _ _ _ _ _ _ _ _ _ se.kind q hc hv (hQ.val se.st r) hx⟩
theorem loadName_global {x : Str} {Q : Value → Shared → Prop} (hk : env.scope.kind = .function) (hx : env.kindOf x = some .globalImplicit) (h : WP B A (loadGlobal env x) Q E s) : WP B A (loadName env x) Q E s := by
  unfold loadName
  simp only [Env.blockKind, hk, hx, ScopeKind.isAnnotationScope, Bool.false_and, Bool.false_eq_true, if_false]
  exact h
end

/-- what one may store, and into what -/
structure Own (B : Bs) (G : Gh) (s : Shared) (sc : Kd) (env : Env) (W : List Addr) : Prop where
  sub : ∀ a ∈ W, a ∈ G.O
  new : ∀ a ∈ W, B.h0.get? a = none
  loc : env.locals ∈ W
  kl : ∀ x, look sc x = some .local → env.kindOf x = some .local
  cel : ∀ x, look sc x = some .cell → env.kindOf x = some .cell ∧ ∃ c v, env.cells.lookup x = some c ∧ s.heap.IsCell c v ∧ c ∈ W ∧ ∀ y, env.cells.lookup y = some c → y = x

theorem Own.tb {B : Bs} {G : Gh} {s : Shared} {sc : Kd} {env : Env} {W : List Addr} (o : Own B G s sc env W) {a : Addr} (ha : a ∈ W) : a ∉ B.tb := fun h => by
  obtain ⟨vs, e⟩ := B.tab.some h
  rw [o.new a ha] at e; cases e

/-- the heap turned at things that are no cells of ours -/
theorem Own.kw {B : Bs} {G G' : Gh} {s s' : Shared} {sc : Kd} {env : Env} {W X : List Addr} (o : Own B G s sc env W) (k : Kw B X G s G' s') (hX : ∀ x c, look sc x = some .cell → env.cells.lookup x = some c → c ∉ X) : Own B G' s' sc env W := by
  refine ⟨fun a ha => k.o ▸ o.sub a ha, o.new, o.loc, o.kl, fun x hx => ?_⟩
  obtain ⟨h1, c, v, hc, hv, hw, ha⟩ := o.cel x hx
  exact ⟨h1, c, v, hc, k.kp.cell (fun q => (List.mem_append.mp q).elim (hX x c hx hc) (o.tb hw)) hv, hw, ha⟩
theorem Own.ke {B : Bs} {G G' : Gh} {s s' : Shared} {sc : Kd} {env : Env} {W : List Addr} (o : Own B G s sc env W) (k : Ke B G s G' s') : Own B G' s' sc env W := o.kw k fun _ _ _ _ h => nomatch h

/-- the frame's own addresses -/
noncomputable def ownAddrs (env : Env) : List Addr := env.locals :: env.cells.map (·.2)
theorem lookup_mem {x : Str} {c : Addr} : ∀ {l : List (Str × Addr)}, l.lookup x = some c → c ∈ l.map (·.2) := fun h => List.mem_map.mpr ⟨(x, c), mem_of_lookup h, rfl⟩

section
variable {B : Bs} {A : Around} {G : Gh} {s : Shared} {sc : Kd} {env : Env} {Γ : Gm} {W : List Addr} {E : Value → Shared → Prop}
theorem not_class {env : Env} (hk : env.scope.kind = .function) : (env.scope.kind == .class || (env.scope.kind == .module && env.locals != env.globals)) = false := by rw [hk]; rfl

theorem store_ok {x : Str} {v : Value} {d : D} {Q : Unit → Shared → Prop} (se : Sees B G s env Γ) (o : Own B G s sc env W) (hx : look sc x = some .local ∨ look sc x = some .cell) (r : Rd G s.heap v d)
    (hQ : ∀ s', Kw B (ownAddrs env) G s G s' → Kw B W G s G s' → Sees B G s' env (put Γ x d) → Own B G s' sc env W → Q () s') : WP B A (storeName env x v) Q E s := by
  rcases hx with hx | hx
  · have hk := o.kl x hx
    obtain ⟨m, hm, hd⟩ := se.ns
    refine ⟨@wpAny_storeName_local _ _ _ _ _ _ _ _ _ hk hm (fun h' hm' hs' => ?_) (not_class se.kind)⟩
    have htb := o.tb o.loc
    have kw : Kw B [env.locals] G s G { s with heap := h', toks := s.toks + 1 } := Kw.same1 se.st (List.mem_singleton.mpr rfl) htb hs' (Nat.le_succ _) (.ns hm)
    have hsub : ∀ a ∈ [env.locals], a ∈ G.O := fun a ha => by rw [List.mem_singleton.mp ha]; exact o.sub _ o.loc
    have up := kw.up se.st hsub
    have nocell : ∀ {c v}, s.heap.IsCell c v → c ∉ [env.locals] := fun {c v} hc hmem => by
      rw [List.mem_singleton.mp hmem] at hc
      obtain ⟨o1, e1, d1⟩ := hc
      obtain ⟨o2, es, ep, e2, d2, _⟩ := hm
      rw [e1] at e2; cases e2; rw [d1] at d2; cases d2
    refine hQ _ (kw.mono fun a ha => by rw [List.mem_singleton.mp ha]; exact List.mem_cons_self) (kw.mono fun a ha => by rw [List.mem_singleton.mp ha]; exact o.loc) ⟨se.st.kw kw fun a ha => by rw [List.mem_singleton.mp ha]; exact o.new _ o.loc, se.kind, se.glob, se.blt, se.lo, ⟨_, hm', fun y e hy hky => ?_⟩, fun y hy => ?_⟩ ?_
    · rw [look_put] at hy
      by_cases hyx : y = x
      · subst hyx; rw [if_pos rfl] at hy; cases hy; exact ⟨v, if_pos rfl, r.up up⟩
      · rw [if_neg hyx] at hy
        obtain ⟨v', hv', r'⟩ := hd y e hy hky
        exact ⟨v', by rw [if_neg hyx]; exact hv', r'.up up⟩
    · obtain ⟨c, hc, hct, hcz, hcd⟩ := se.cl y hy
      refine ⟨c, hc, hct, Nat.lt_of_lt_of_le hcz kw.sz, fun e he => ?_⟩
      rw [look_put] at he
      by_cases hyx : y = x
      · subst hyx; rw [hk] at hy; cases hy
      · rw [if_neg hyx] at he
        obtain ⟨v', hv', r'⟩ := hcd e he
        exact ⟨v', kw.kp.cell (fun q => (List.mem_append.mp q).elim (nocell hv') hct) hv', r'.up up⟩
    · refine o.kw kw fun y c hy hc => ?_
      obtain ⟨_, c', v', hc', hv', _⟩ := o.cel y hy
      rw [hc] at hc'; cases hc'
      exact nocell hv'
  · obtain ⟨hk, c, v₀, hc, hv, hw, ha⟩ := o.cel x hx
    refine ⟨@wpAny_storeName_cell _ _ _ _ _ _ _ _ _ _ se.kind hk hc hv fun h' hv' hs' => ?_⟩
    have htb := o.tb hw
    have kw : Kw B [c] G s G { s with heap := h' } := Kw.same1 se.st (List.mem_singleton.mpr rfl) htb hs' (Nat.le_refl _) (.cell hv)
    have hsub : ∀ a ∈ [c], a ∈ G.O := fun a ha => by rw [List.mem_singleton.mp ha]; exact o.sub _ hw
    have up := kw.up se.st hsub
    have hlc : env.locals ∉ [c] := fun hmem => by
      rw [← List.mem_singleton.mp hmem] at hv
      obtain ⟨o1, e1, d1⟩ := hv
      obtain ⟨m, ⟨o2, es, ep, e2, d2, _⟩, _⟩ := se.ns
      rw [e1] at e2; cases e2; rw [d1] at d2; cases d2
    have hcm : c ∈ ownAddrs env := List.mem_cons_of_mem _ (lookup_mem hc)
    refine hQ _ (kw.mono fun a ha => by rw [List.mem_singleton.mp ha]; exact hcm) (kw.mono fun a ha => by rw [List.mem_singleton.mp ha]; exact hw) ⟨se.st.kw kw fun a ha => by rw [List.mem_singleton.mp ha]; exact o.new _ hw, se.kind, se.glob, se.blt, se.lo, ?_, fun y hy => ?_⟩ ?_
    · obtain ⟨m, hm, hd⟩ := se.ns
      refine ⟨m, kw.kp.ns (fun q => (List.mem_append.mp q).elim hlc se.lo) hm, fun y e hy hky => ?_⟩
      rw [look_put] at hy
      by_cases hyx : y = x
      · subst hyx; rw [hk] at hky; cases hky
      · rw [if_neg hyx] at hy
        obtain ⟨v', hv', r'⟩ := hd y e hy hky
        exact ⟨v', hv', r'.up up⟩
    · obtain ⟨c', hc', hct, hcz, hcd⟩ := se.cl y hy
      refine ⟨c', hc', hct, Nat.lt_of_lt_of_le hcz kw.sz, fun e he => ?_⟩
      rw [look_put] at he
      by_cases hyx : y = x
      · subst hyx
        rw [if_pos rfl] at he; cases he
        rw [hc] at hc'; cases hc'
        exact ⟨v, hv', r.up up⟩
      · rw [if_neg hyx] at he
        obtain ⟨v', hv'', r'⟩ := hcd e he
        have hne : c' ≠ c := fun e => hyx (ha y (e ▸ hc'))
        exact ⟨v', kw.kp.cell (fun q => (List.mem_append.mp q).elim (fun q => hne (List.mem_singleton.mp q)) hct) hv'', r'.up up⟩
    · refine ⟨o.sub, o.new, o.loc, o.kl, fun y hy => ?_⟩
      obtain ⟨h1, c', v', hc', hv'', hw', ha'⟩ := o.cel y hy
      by_cases hyx : y = x
      · subst hyx; rw [hc] at hc'; cases hc'
        exact ⟨h1, c, _, hc, hv', hw', ha'⟩
      · have hne : c' ≠ c := fun e => hyx (ha y (e ▸ hc'))
        exact ⟨h1, c', v', hc', kw.kp.cell (fun q => (List.mem_append.mp q).elim (fun q => hne (List.mem_singleton.mp q)) (o.tb hw')) hv'', hw', ha'⟩
end
end Mine

end
section
open PySem PySem.W PyProof.Rows
set_option Elab.async false
namespace Mine

noncomputable def storable (sc : Kd) (x : Str) : Bool := match look sc x with
  | some .local => true
  | some .cell => true
  | _ => false
theorem storable_iff {sc : Kd} {x : Str} (h : storable sc x = true) : look sc x = some .local ∨ look sc x = some .cell := by
  unfold storable at h
  split at h
  · rename_i e; exact .inl e
  · rename_i e; exact .inr e
  · cases h
noncomputable def nameOf : Expr → Option Str
  | .Name x _ => some x
  | _ => none
theorem nameOf_some {e : Expr} {x : Str} (h : nameOf e = some x) : ∃ p, e = .Name x p := by
  unfold nameOf at h
  split at h
  · rw [Option.some.inj h]; exact ⟨_, rfl⟩
  · exact nsd h
noncomputable def bindNs (sc : Kd) : List Expr → List D → Gm → Option Gm
  | [], ds, Γ => match ds with
    | [] => some Γ
    | _ :: _ => none
  | e :: es, ds, Γ => match ds with
    | [] => none
    | d :: ds => match nameOf e with
      | some x => match storable sc x with
        | true => bindNs sc es ds (put Γ x d)
        | false => none
      | none => none
theorem bindNs_nil {sc : Kd} {ds : List D} {Γ Γ' : Gm} (h : bindNs sc [] ds Γ = some Γ') : ds = [] ∧ Γ = Γ' := by
  cases ds with
  | nil => exact ⟨rfl, Option.some.inj h⟩
  | cons => exact nsd h
theorem bindNs_inv {sc : Kd} {e : Expr} {es : List Expr} {ds : List D} {Γ Γ' : Gm} (h : bindNs sc (e :: es) ds Γ = some Γ') :
    ∃ x p d ds', e = .Name x p ∧ ds = d :: ds' ∧ storable sc x = true ∧ bindNs sc es ds' (put Γ x d) = some Γ' := by
  cases ds with
  | nil => exact nsd h
  | cons d ds =>
    unfold bindNs at h
    simp only at h
    split at h
    · rename_i x hx
      obtain ⟨p, rfl⟩ := nameOf_some hx
      split at h
      · exact ⟨x, p, d, ds, rfl, rfl, ‹_›, h⟩
      · exact nsd h
    · exact nsd h
noncomputable def bindT (sc : Kd) (t : Expr) (d : D) (Γ : Gm) : Option Gm := match t with
  | .Name x _ => match storable sc x with
    | true => some (put Γ x d)
    | false => none
  | .Tuple es _ _ => match tupOf1 d with
    | some ds => bindNs sc es ds Γ
    | none => none
  | _ => none
inductive BndT (sc : Kd) (d : D) (Γ Γ' : Gm) : Expr → Prop
  | name {x : Str} {p : Pos} (hx : storable sc x = true) (e : put Γ x d = Γ') : BndT sc d Γ Γ' (.Name x p)
  | tup {es : List Expr} {c : Nat} {p : Pos} {ds : List D} (e : d = .tup ds) (h : bindNs sc es ds Γ = some Γ') : BndT sc d Γ Γ' (.Tuple es c p)
theorem bindT_inv {sc : Kd} {t : Expr} {d : D} {Γ Γ' : Gm} (h : bindT sc t d Γ = some Γ') : BndT sc d Γ Γ' t := by
  cases t <;> first | exact nsd h | (unfold bindT at h; dsimp only at h)
  · split at h
    · exact .name ‹_› (Option.some.inj h)
    · exact nsd h
  · split at h
    · exact .tup (tupOf1_eq ‹_›) h
    · exact nsd h

section
variable {B : Bs} {A : Around} {G : Gh} {s : Shared} {sc : Kd} {env : Env} {Γ Γ' : Gm} {W : List Addr} {E : Value → Shared → Prop} {m : Nat}

/-- what is known behind a store -/
structure Stored (B : Bs) (G : Gh) (s : Shared) (sc : Kd) (env : Env) (W : List Addr) (Γ' : Gm) (s' : Shared) : Prop where
  ka : Kw B (ownAddrs env) G s G s'
  kw : Kw B W G s G s'
  se : Sees B G s' env Γ'
  ow : Own B G s' sc env W

theorem bindNs_len : ∀ {es : List Expr} {ds : List D} {Γ Γ' : Gm}, bindNs sc es ds Γ = some Γ' → (assignEach es env).length = ds.length ∧ (assignEach es env).findIdx? (·.1) = none
  | [], _, _, _, h => by rw [(bindNs_nil h).1]; exact ⟨rfl, rfl⟩
  | e :: es, _, Γ, Γ', h => by
    obtain ⟨x, p, d, ds, rfl, rfl, _, h⟩ := bindNs_inv h
    obtain ⟨h1, h2⟩ := bindNs_len h
    refine ⟨congrArg (· + 1) h1, ?_⟩
    show ((false, assign (.Name x p) env) :: assignEach es env).findIdx? (·.1) = none
    rw [List.findIdx?_cons, h2]; rfl

theorem RdL.up' {G G' : Gh} {h h' : Heap} {vs : List Value} {ds : List D} (r : RdL G h vs ds) (u : Up G h G' h') : RdL G' h' vs ds := r.up u

theorem bindNs_ok : ∀ {es : List Expr} {ds : List D} {vs : List Value} {Γ Γ' : Gm} {s : Shared} {Q : Unit → Shared → Prop}, bindNs sc es ds Γ = some Γ' → Sees B G s env Γ → Own B G s sc env W → RdL G s.heap vs ds →
    (∀ s', Stored B G s sc env W Γ' s' → Q () s') → WP B A (assignInOrder ((assignEach es env).map (·.2)) vs) Q E s
  | [], _, vs, Γ, Γ', s, Q, h, se, ow, r, hQ => by
    obtain ⟨rfl, rfl⟩ := bindNs_nil h
    exact r.nilK (WP.pure (hQ s ⟨.refl se.st, .refl se.st, se, ow⟩))
  | e :: es, _, vs, Γ, Γ', s, Q, h, se, ow, r, hQ => by
    obtain ⟨x, p, d, ds, rfl, rfl, hx, h⟩ := bindNs_inv h
    refine r.consK fun v vs rv rs => ?_
    show WP B A (do holding vs (assign (.Name x p) env v); assignInOrder ((assignEach es env).map (·.2)) vs) Q E s
    refine WP.bind (WP.holding ⟨@wpAny_assign_Name _ _ _ _ _ _ _ _ _ (store_ok se ow (storable_iff hx) rv fun s1 ka kw se1 ow1 => ?_).w⟩)
    exact bindNs_ok h se1 ow1 (rs.up' (kw.up se.st ow.sub)) fun s2 st2 => hQ s2 ⟨ka.trans st2.ka, kw.trans st2.kw, st2.se, st2.ow⟩

theorem unpackItems_ok {a : Addr} {items : Array Value} {n : Nat} {ds : List D} {Q : List Value → Shared → Prop} (rm : Room m A) (st : St B G s) (hl : TupAt s.heap a items n) (hd : RdL G s.heap items.toList ds)
    (hQ : ∀ s', Ke B G s G s' → Q items.toList s') : WP B A (unpackItems (.ref a) ds.length none) Q E s := by
  rw [← hd.size]
  exact WP.mt ⟨@wpAny_unpackItems_tuple _ _ _ _ _ _ _ _ rm.hd (TupAt.is hl) fun h' hx ht hz => hQ _ (Ke.of st (fun b o e => hx b o (Nat.ne_of_lt (Heap.lt_size e)) e) (Nat.le_refl _) hz)⟩

theorem assign_ok {t : Expr} {d : D} {v : Value} {Q : Unit → Shared → Prop} (rm : Room m A) (h : bindT sc t d Γ = some Γ') (se : Sees B G s env Γ) (ow : Own B G s sc env W) (r : Rd G s.heap v d)
    (hQ : ∀ s', Stored B G s sc env W Γ' s' → Q () s') : WP B A (assign t env v) Q E s := by
  cases bindT_inv h with
  | name hx e => exact ⟨@wpAny_assign_Name _ _ _ _ _ _ _ _ _ (store_ok se ow (storable_iff hx) r fun s1 ka kw se1 ow1 => hQ s1 (e ▸ ⟨ka, kw, se1, ow1⟩)).w⟩
  | tup e h =>
      subst e
      refine r.tupK fun a items n ha hl hd => ?_
      obtain ⟨h1, h2⟩ := bindNs_len (env := env) h
      rw [arm_assign_Tuple]
      refine WP.bind (WP.standAt ?_)
      unfold unpack
      rw [h1, h2]
      refine WP.bind (WP.holding (unpackItems_ok rm se.st hl hd fun s1 k1 => ?_))
      exact bindNs_ok h (se.ke k1) (ow.ke k1) (hd.ke se.st k1) fun s2 st2 => hQ s2 ⟨(Kw.of_ke k1).trans st2.ka, (Kw.of_ke k1).trans st2.kw, st2.se, st2.ow⟩

end
end Mine

end
section
open PySem PySem.W PyProof.Rows
set_option Elab.async false
namespace Mine

/-- from state to state, where what is owned may change -/
structure Kx (B : Bs) (W : List Addr) (G : Gh) (s : Shared) (G' : Gh) (s' : Shared) : Prop where
  kw : Kw B W G s { G' with O := G.O } s'
  o : ∀ a ∈ G'.O, a ∈ G.O ∨ s.heap.objs.size ≤ a
  sub : ∀ a ∈ B.tb, a ∈ G'.O
  lt : ∀ a ∈ G'.O, a < s'.heap.objs.size

section
variable {B : Bs} {W W' : List Addr} {G G' G'' : Gh} {s s' s'' : Shared}
theorem Kx.of_kw (st : St B G s) (k : Kw B W G s G' s') : Kx B W G s G' s' := by
  have e : G' = { G' with O := G.O } := by rw [← k.o]
  exact ⟨e ▸ k, fun a ha => .inl (k.o ▸ ha), fun a ha => k.o ▸ st.sub a ha, fun a ha => Nat.lt_of_lt_of_le (st.lt a (k.o ▸ ha)) k.sz⟩
theorem Kx.refl (st : St B G s) : Kx B W G s G s := .of_kw st (.refl st)
theorem Kx.up (k : Kx B W G s G' s') (st : St B G s) (hW : ∀ a ∈ W, a ∈ G.O) : Up G s.heap G' s'.heap :=
  ⟨k.kw.kp.mono fun b hb => (List.mem_append.mp hb).elim (hW b) (st.sub b), fun a ha => (k.o a ha).imp id Heap.get?_none_of_le, k.kw.n, k.kw.τ⟩
theorem Kx.st (k : Kx B W G s G' s') (st : St B G s) (hW : ∀ a ∈ W, B.h0.get? a = none) : St B G' s' := by
  have x := st.kw k.kw hW
  exact ⟨x.kp, x.tg, k.sub, k.lt, x.tk, x.pos⟩
theorem Kx.trans (k : Kx B W G s G' s') (k' : Kx B W' G' s' G'' s'') (h : ∀ a ∈ W', a ∈ W ∨ s.heap.objs.size ≤ a) : Kx B W G s G'' s'' := by
  refine ⟨⟨?_, fun b o hb e => ?_, k.kw.tg.trans k'.kw.tg, k.kw.cd.trans k'.kw.cd, Nat.le_trans k.kw.sz k'.kw.sz, rfl, Nat.le_trans k.kw.n k'.kw.n, fun t ht => (k'.kw.τ t (Nat.lt_of_lt_of_le ht k.kw.n)).trans (k.kw.τ t ht), k'.kw.tk⟩, fun a ha => ?_, k'.sub, k'.lt⟩
  · obtain ⟨h1, t1, e1⟩ := k.kw.same
    obtain ⟨h2, t2, e2⟩ := k'.kw.same
    exact ⟨h2, t2, by rw [e2, e1]⟩
  · refine k'.kw.kp b o (fun m => ?_) (k.kw.kp b o hb e)
    rcases List.mem_append.mp m with q | q
    · rcases h b q with r | r
      · exact hb (List.mem_append_left _ r)
      · exact Nat.not_lt.mpr r (Heap.lt_size e)
    · exact hb (List.mem_append_right _ q)
  · rcases k'.o a ha with q | q
    · exact k.o a q
    · exact .inr (Nat.le_trans k.kw.sz q)
theorem Kx.mono (k : Kx B W G s G' s') (h : ∀ a ∈ W, a ∈ W') : Kx B W' G s G' s' := ⟨k.kw.mono h, k.o, k.sub, k.lt⟩
theorem Kx.of_ke (st : St B G s) (k : Ke B G s G' s') : Kx B W G s G' s' := .of_kw st (.of_ke k)
theorem Kx.ke (k : Kx B W G s G' s') (k' : Ke B G' s' G'' s'') (st : St B G' s') : Kx B W G s G'' s'' := k.trans (.of_ke (W := W) st k') fun _ h => .inl h
/-- new things are owned -/
theorem Kx.own (st : St B G s) (k : Ke B G s G' s') {O' : List Addr} (h : ∀ a ∈ O', a ∈ G.O ∨ (s.heap.objs.size ≤ a ∧ a < s'.heap.objs.size)) (hs : ∀ a ∈ G.O, a ∈ O') : Kx B W G s { G' with O := O' } s' := by
  have e : ({ G' with O := G.O } : Gh) = G' := by rw [← k.o]
  refine ⟨?_, fun a ha => (h a ha).imp id And.left, fun a ha => hs a (st.sub a ha), fun a ha => (h a ha).elim (fun q => Nat.lt_of_lt_of_le (st.lt a q) k.sz) And.right⟩
  show Kw B W G s { G' with O := G.O } s'
  rw [e]; exact .of_ke k
/-- less is owned -/
theorem Kx.free (k : Kx B W G s G' s') {O' : List Addr} (h : ∀ a ∈ O', a ∈ G'.O) (ht : ∀ a ∈ B.tb, a ∈ O') : Kx B W G s { G' with O := O' } s' :=
  ⟨k.kw, fun a ha => k.o a (h a ha), ht, fun a ha => k.lt a (h a ha)⟩
theorem Up.free {G : Gh} {h : Heap} {O' : List Addr} (hO : ∀ a ∈ O', a ∈ G.O) : Up G h { G with O := O' } h := ⟨Kp.refl _ _, fun a ha => .inl (hO a ha), Nat.le_refl _, fun _ _ => rfl⟩
theorem St.free {G : Gh} {s : Shared} {O' : List Addr} (x : St B G s) (hO : ∀ a ∈ O', a ∈ G.O) (ht : ∀ a ∈ B.tb, a ∈ O') : St B { G with O := O' } s := ⟨x.kp, x.tg, ht, fun a ha => x.lt a (hO a ha), x.tk, x.pos⟩
theorem Kx.sz (k : Kx B W G s G' s') : s.heap.objs.size ≤ s'.heap.objs.size := k.kw.sz

variable {env : Env} {Γ : Gm}
theorem Sees.kx (x : Sees B G s env Γ) (k : Kx B W G s G' s') (hW : ∀ a ∈ W, a ∈ G.O) (h0 : ∀ a ∈ W, B.h0.get? a = none) (hl : env.locals ∉ W) (hc : ∀ y c, env.cells.lookup y = some c → c ∉ W) : Sees B G' s' env Γ := by
  have up := k.up x.st hW
  refine ⟨k.st x.st h0, x.kind, x.glob, x.blt, x.lo, ?_, fun y hy => ?_⟩
  · obtain ⟨m, hm, hd⟩ := x.ns
    refine ⟨m, k.kw.kp.ns (fun q => (List.mem_append.mp q).elim hl x.lo) hm, fun y d hy hk => ?_⟩
    obtain ⟨v, hv, r⟩ := hd y d hy hk
    exact ⟨v, hv, r.up up⟩
  · obtain ⟨c, hcl, hct, hcz, hd⟩ := x.cl y hy
    refine ⟨c, hcl, hct, Nat.lt_of_lt_of_le hcz k.kw.sz, fun d hyd => ?_⟩
    obtain ⟨v, hv, r⟩ := hd d hyd
    exact ⟨v, k.kw.kp.cell (fun q => (List.mem_append.mp q).elim (hc y c hcl) hct) hv, r.up up⟩
/-- nothing that stood is turned -/
theorem Sees.k0 (x : Sees B G s env Γ) (k : Kx B [] G s G' s') : Sees B G' s' env Γ := x.kx k (fun _ h => nomatch h) (fun _ h => nomatch h) (fun h => nomatch h) fun _ _ _ h => nomatch h
theorem Own.k0 {sc : Kd} {V : List Addr} (o : Own B G s sc env V) (k : Kx B [] G s G' s') (hV : ∀ a ∈ V, a ∈ G'.O) : Own B G' s' sc env V := by
  refine ⟨hV, o.new, o.loc, o.kl, fun x hx => ?_⟩
  obtain ⟨h1, c, v, hc, hv, hw, ha⟩ := o.cel x hx
  exact ⟨h1, c, v, hc, k.kw.kp.cell (fun q => o.tb hw (by simpa using q)) hv, hw, ha⟩
theorem Own.gh {sc : Kd} {V : List Addr} {G' : Gh} (o : Own B G s sc env V) (hV : ∀ a ∈ V, a ∈ G'.O) : Own B G' s sc env V := ⟨hV, o.new, o.loc, o.kl, o.cel⟩
theorem Src.kx {A : Around} {I : Addr} {xs : List D} (src : Src B A I G s xs) (k : Kx B W G s G' s') (st : St B G s) (hW : ∀ a ∈ W, a ∈ G.O) (hI : I ∉ W) (hIt : I ∉ B.tb) : Src B A I G' s' xs := by
  obtain ⟨fp, n, i, P, S, W', hS, hn, hfp, hP, hob⟩ := src.has
  have up := k.up st hW
  refine ⟨fp, n, i, P, S, W', W'.frame i _ _ hS fun b hb o e => ?_, hn, fun b hb => (hfp b hb).imp id fun h => ⟨fun m => (k.o b m).elim h.1 (Nat.not_le.mpr h.2), Nat.lt_of_lt_of_le h.2 k.kw.sz⟩, fun j v d hv hd => (hP j v d hv hd).up up, hob⟩
  refine k.kw.kp b o (fun m => ?_) e
  rcases List.mem_append.mp m with h | h
  · rcases hfp b hb with q | q
    · exact hI (q ▸ h)
    · exact q.1 (hW b h)
  · rcases hfp b hb with q | q
    · exact hIt (q ▸ h)
    · exact q.1 (st.sub b h)
end

/-- the cells of a new frame -/
theorem cellsFrom_acc : ∀ (names : List (Str × NameKind)) (n : Nat) (acc : List (Str × Addr)), cellsFrom n names acc = cellsFrom n names [] ++ acc
  | [], _, _ => rfl
  | (x, k) :: r, n, acc => by
    unfold cellsFrom
    split
    · rw [cellsFrom_acc r (n + 1) ((x, n) :: acc), cellsFrom_acc r (n + 1) [(x, n)], List.append_assoc]; rfl
    · exact cellsFrom_acc r n acc
theorem cellsFrom_mem : ∀ {names : List (Str × NameKind)} {n : Nat} {x : Str} {c : Addr}, (x, c) ∈ cellsFrom n names [] → (x, NameKind.cell) ∈ names
  | [], _, _, _, h => by cases h
  | (y, k) :: r, n, x, c, h => by
    unfold cellsFrom at h
    split at h
    · rename_i hk
      rw [cellsFrom_acc] at h
      rcases List.mem_append.mp h with q | q
      · exact List.mem_cons_of_mem _ (cellsFrom_mem q)
      · have e := List.mem_singleton.mp q
        cases e
        have : k = .cell := by cases k <;> first | rfl | cases hk
        subst this; exact List.mem_cons_self
    · exact List.mem_cons_of_mem _ (cellsFrom_mem h)
theorem cellsFrom_some : ∀ {names : List (Str × NameKind)} {n : Nat} {x : Str}, (x, NameKind.cell) ∈ names → ∃ c, (cellsFrom n names []).lookup x = some c
  | (y, k) :: r, n, x, h => by
    unfold cellsFrom
    rcases List.mem_cons.mp h with q | q
    · have e1 := (Prod.mk.inj q).1; have e2 := (Prod.mk.inj q).2; subst e1; subst e2
      rw [if_pos (by decide), cellsFrom_acc, List.lookup_append]
      cases e : (cellsFrom (n + 1) r []).lookup x with
      | some c => exact ⟨c, rfl⟩
      | none => exact ⟨n, by simp⟩
    · split
      · rw [cellsFrom_acc, List.lookup_append]
        obtain ⟨c, hc⟩ := cellsFrom_some (n := n + 1) q
        exact ⟨c, by rw [hc]; rfl⟩
      · exact cellsFrom_some q

/-- each name once -/
noncomputable def hasKey {α : Type} (x : Str) : List (Str × α) → Bool
  | [] => false
  | (y, _) :: r => match strEq x y with
    | true => true
    | false => hasKey x r
noncomputable def once {α : Type} : List (Str × α) → Bool
  | [] => true
  | (x, _) :: r => match hasKey x r with
    | true => false
    | false => once r
theorem hasKey_mem {α : Type} {x : Str} : ∀ {l : List (Str × α)} {k : α}, (x, k) ∈ l → hasKey x l = true
  | (y, j) :: r, k, h => by
    unfold hasKey
    cases e : strEq x y with
    | true => rfl
    | false =>
      rcases List.mem_cons.mp h with q | q
      · cases q; rw [strEq_iff.mpr rfl] at e; cases e
      · exact hasKey_mem q
theorem look_of_mem {α : Type} : ∀ {l : List (Str × α)} {x : Str} {k : α}, once l = true → (x, k) ∈ l → look l x = some k
  | (y, j) :: r, x, k, ho, h => by
    unfold once at ho
    cases hk : hasKey y r with
    | true => rw [hk] at ho; first | exact nsd ho | exact nft ho | exact ntf ho | cases ho
    | false =>
      rw [hk] at ho
      unfold look
      rcases List.mem_cons.mp h with q | q
      · cases q; rw [strEq_iff.mpr rfl]
      · cases e : strEq x y with
        | true => rw [strEq_iff.mp e] at q; rw [hasKey_mem q] at hk; cases hk
        | false => exact look_of_mem ho q
theorem mem_of_look {α : Type} {l : List (Str × α)} {x : Str} {k : α} (h : look l x = some k) : (x, k) ∈ l := by
  rw [look_eq] at h; exact mem_of_lookup h

theorem pushCells_size : ∀ (names : List (Str × NameKind)) (h : Heap), h.objs.size ≤ (pushCells h names).objs.size
  | [], _ => Nat.le_refl _
  | (_, k) :: r, h => by
    unfold pushCells
    split
    · exact Nat.le_trans (by rw [Heap.size_push]; exact Nat.le_succ _) (pushCells_size r _)
    · exact pushCells_size r h

/-- the free names' cells -/
noncomputable def closOf (cells : List (Str × Addr)) : List (Str × NameKind) → List (Str × Addr) → List (Str × Addr)
  | [], acc => acc
  | (x, k) :: r, acc => if k == .free then closOf cells r ((x, (cells.lookup x).getD 0) :: acc) else closOf cells r acc
theorem closureFor_go {env : Env} (f : Str × NameKind → List (Str × Addr) → Sem (ForInStep (List (Str × Addr))))
    (hf : ∀ x k cs, f (x, k) cs = if k == .free then (do let a ← cellOf env x; pure (.yield ((x, a) :: cs))) else pure (.yield cs)) :
    ∀ (names : List (Str × NameKind)) (acc : List (Str × Addr)), (∀ x, (x, NameKind.free) ∈ names → ∃ c, env.cells.lookup x = some c) → forIn names acc f = pure (closOf env.cells names acc)
  | [], acc, _ => by rw [List.forIn_nil]; rfl
  | (x, k) :: r, acc, h => by
    rw [List.forIn_cons, hf]
    unfold closOf
    have hr : ∀ y, (y, NameKind.free) ∈ r → ∃ c, env.cells.lookup y = some c := fun y hy => h y (List.mem_cons_of_mem _ hy)
    split
    · rename_i hk
      have : k = .free := by cases k <;> first | rfl | cases hk
      subst this
      obtain ⟨c, hc⟩ := h x List.mem_cons_self
      unfold cellOf
      rw [hc]
      show (pure (ForInStep.yield ((x, c) :: acc)) >>= _) = _
      rw [pure_bind]
      exact closureFor_go f hf r _ hr
    · rw [pure_bind]
      exact closureFor_go f hf r _ hr
theorem closureFor_ok {scope : Scope} {env : Env} (h : ∀ x, (x, NameKind.free) ∈ scope.names → ∃ c, env.cells.lookup x = some c) : closureFor scope env = pure (closOf env.cells scope.names []) := by
  unfold closureFor
  show (forIn scope.names [] _ >>= fun cs => pure cs) = _
  rw [closureFor_go _ (fun x k cs => by cases hk : k == NameKind.free <;> simp [hk]) _ _ h, pure_bind]
theorem closOf_acc (cells : List (Str × Addr)) : ∀ (names : List (Str × NameKind)) (acc : List (Str × Addr)), closOf cells names acc = closOf cells names [] ++ acc
  | [], _ => rfl
  | (x, k) :: r, acc => by
    unfold closOf
    split
    · rw [closOf_acc cells r ((x, _) :: acc), closOf_acc cells r [(x, _)], List.append_assoc]; rfl
    · exact closOf_acc cells r acc
theorem closOf_mem {cells : List (Str × Addr)} : ∀ {names : List (Str × NameKind)} {x : Str} {c : Addr}, (x, c) ∈ closOf cells names [] → (x, NameKind.free) ∈ names ∧ c = (cells.lookup x).getD 0
  | [], _, _, h => by cases h
  | (y, k) :: r, x, c, h => by
    unfold closOf at h
    split at h
    · rename_i hk
      rw [closOf_acc] at h
      rcases List.mem_append.mp h with q | q
      · exact ⟨List.mem_cons_of_mem _ (closOf_mem q).1, (closOf_mem q).2⟩
      · have e := List.mem_singleton.mp q
        cases e
        have : k = .free := by cases k <;> first | rfl | cases hk
        subst this; exact ⟨List.mem_cons_self, rfl⟩
    · exact ⟨List.mem_cons_of_mem _ (closOf_mem h).1, (closOf_mem h).2⟩
theorem closOf_some {cells : List (Str × Addr)} : ∀ {names : List (Str × NameKind)} {x : Str}, (x, NameKind.free) ∈ names → (closOf cells names []).lookup x = some ((cells.lookup x).getD 0)
  | (y, k) :: r, x, h => by
    unfold closOf
    rcases List.mem_cons.mp h with q | q
    · have e1 := (Prod.mk.inj q).1; have e2 := (Prod.mk.inj q).2; subst e1; subst e2
      rw [if_pos (by decide), closOf_acc, List.lookup_append]
      cases e : (closOf cells r []).lookup x with
      | some c => rw [(closOf_mem (mem_of_lookup e)).2]; rfl
      | none => simp
    · split
      · rw [closOf_acc, List.lookup_append, closOf_some q]; rfl
      · exact closOf_some q
end Mine

end
section
open PySem PySem.W PyProof.Rows
set_option Elab.async false
namespace Mine

/-- the closure of a new frame, and what is known of it -/
structure Clo (B : Bs) (G : Gh) (s : Shared) (names : Kd) (cl : List (Str × Addr)) (Γ : Gm) : Prop where
  old : ∀ x c, (x, c) ∈ cl → c < s.heap.objs.size
  nt : ∀ x c, cl.lookup x = some c → c ∉ B.tb
  has : ∀ x, (x, NameKind.free) ∈ names → ∃ c, cl.lookup x = some c ∧ ∀ d, look Γ x = some d → ∃ v, s.heap.IsCell c (some v) ∧ Rd G s.heap v d
  only : ∀ x d, look Γ x = some d → (x, NameKind.free) ∈ names

noncomputable def bindPs : Gm → List Str → List D → Gm
  | Γ, x :: xs, d :: ds => bindPs (put Γ x d) xs ds
  | Γ, _, _ => Γ

section
variable {B : Bs} {A : Around} {G : Gh} {sc : Kd} {env : Env} {W : List Addr} {E : Value → Shared → Prop}
theorem stores_ok (f : Str × Value → PUnit → Sem (ForInStep PUnit)) (hf : ∀ n v u, f (n, v) u = (do storeName env n v; pure (.yield ⟨⟩))) : ∀ {binds : List (Str × Value)} {ds : List D} {Γ : Gm} {s : Shared} {Q : PUnit → Shared → Prop},
    (∀ p ∈ binds, storable sc p.1 = true) → Sees B G s env Γ → Own B G s sc env W → RdL G s.heap (binds.map (·.2)) ds →
    (∀ s', Kw B W G s G s' → Sees B G s' env (bindPs Γ (binds.map (·.1)) ds) → Own B G s' sc env W → Q ⟨⟩ s') → WP B A (forIn binds ⟨⟩ f) Q E s
  | [], ds, Γ, s, Q, _, se, ow, r, hQ => by
    rw [List.forIn_nil]
    exact WP.pure (hQ s (.refl se.st) (by cases ds <;> exact se) ow)
  | (x, v) :: binds, ds, Γ, s, Q, hb, se, ow, r, hQ => by
    rw [List.forIn_cons, hf]
    cases r with | cons rv rs =>
    refine WP.bind (WP.bind (store_ok se ow (storable_iff (hb _ List.mem_cons_self)) rv fun s1 ka kw se1 ow1 => WP.pure ?_))
    have up := kw.up se.st ow.sub
    exact stores_ok f hf (fun p hp => hb p (List.mem_cons_of_mem _ hp)) se1 ow1 (rs.up' up) fun s2 k2 se2 ow2 => hQ s2 (kw.trans k2) se2 ow2
end

noncomputable def newW (s : Shared) (names : Kd) : List Addr := s.heap.objs.size :: (cellsFrom (s.heap.objs.size + 1) names []).map (·.2)

section
variable {B : Bs} {A : Around} {G : Gh} {s : Shared} {Γ : Gm} {E : Value → Shared → Prop}
theorem newEnv_cells (scope : Scope) (L g : Addr) (cells : List (Str × Addr)) (q : Str) (f : Option Addr) (c : Value) (ar : Option Env) (b : Addr) : (newEnv scope L g cells q f c ar b).cells = cells := by cases ar <;> rfl
theorem newEnv_scope (scope : Scope) (L g : Addr) (cells : List (Str × Addr)) (q : Str) (f : Option Addr) (c : Value) (ar : Option Env) (b : Addr) : (newEnv scope L g cells q f c ar b).scope = scope := by cases ar <;> rfl
theorem newEnv_locals (scope : Scope) (L g : Addr) (cells : List (Str × Addr)) (q : Str) (f : Option Addr) (c : Value) (ar : Option Env) (b : Addr) : (newEnv scope L g cells q f c ar b).locals = L := by cases ar <;> rfl
theorem newEnv_globals (scope : Scope) (L g : Addr) (cells : List (Str × Addr)) (q : Str) (f : Option Addr) (c : Value) (ar : Option Env) (b : Addr) : (newEnv scope L g cells q f c ar b).globals = g := by cases ar <;> rfl

theorem enter_ok {scope : Scope} {cl : List (Str × Addr)} {binds : List (Str × Value)} {ds : List D} {qual : Str} {func : Option Addr} {code : Value} {around : Option Env} {builtins : Addr} {Q : Env → Shared → Prop}
    (hk : scope.kind = .function) (ho : once scope.names = true) (st : St B G s) (hc : Clo B G s scope.names cl Γ) (hb : ∀ p ∈ binds, storable scope.names p.1 = true) (r : RdL G s.heap (binds.map (·.2)) ds)
    (hbl : (newEnv scope s.heap.objs.size mainGlobals (cellsFrom (s.heap.objs.size + 1) scope.names cl) qual func code around builtins).builtins = builtinsNs)
    (hQ : ∀ env G' s', env = newEnv scope s.heap.objs.size mainGlobals (cellsFrom (s.heap.objs.size + 1) scope.names cl) qual func code around builtins → Kx B [] G s G' s' → G' = { G with O := newW s scope.names ++ G.O } →
      Sees B G' s' env (bindPs Γ (binds.map (·.1)) ds) → Own B G' s' scope.names env (newW s scope.names) → (∀ a ∈ newW s scope.names, s.heap.objs.size ≤ a ∧ a < s'.heap.objs.size) → Q env s') :
    WP B A (newFunctionEnv scope mainGlobals cl binds qual func code around builtins) Q E s := by
  have main : ∀ (o : Obj) (c : Value), o = { cls := c, data := .dict #[] } → WP B A (forIn binds PUnit.unit fun x _ => do storeName (newEnv scope s.heap.objs.size mainGlobals (cellsFrom (s.heap.objs.size + 1) scope.names cl) qual func code around builtins) x.1 x.2; pure (.yield ⟨⟩))
      (fun _ s' => Q (newEnv scope s.heap.objs.size mainGlobals (cellsFrom (s.heap.objs.size + 1) scope.names cl) qual func code around builtins) s') E { s with heap := pushCells (s.heap.push o) scope.names } := by
    intro o cc hod
    generalize henv : newEnv scope s.heap.objs.size mainGlobals (cellsFrom (s.heap.objs.size + 1) scope.names cl) qual func code around builtins = env at hbl hQ ⊢
    have hcells : env.cells = cellsFrom (s.heap.objs.size + 1) scope.names [] ++ cl := by rw [← henv, newEnv_cells, cellsFrom_acc]
    have hscope : env.scope = scope := by rw [← henv, newEnv_scope]
    have hlocals : env.locals = s.heap.objs.size := by rw [← henv, newEnv_locals]
    have hglobals : env.globals = mainGlobals := by rw [← henv, newEnv_globals]
    have hkind : ∀ x, env.kindOf x = look scope.names x := fun x => by unfold Env.kindOf; rw [hscope, look_eq]
    have ok := cellsFrom_ok scope.names (s.heap.push o) (s.heap.objs.size + 1) [] ⟨fun _ _ hm => (nomatch hm), List.Pairwise.nil⟩ (by rw [Heap.size_push]; exact Nat.le_refl _)
    rw [Heap.size_push] at ok
    generalize hH : pushCells (s.heap.push o) scope.names = H at ok ⊢
    have keep : ∀ b o', s.heap.get? b = some o' → H.get? b = some o' := fun b o' e => hH ▸ pushCells_keeps _ _ b o' (Heap.get?_push_of_some _ e)
    have hsz : s.heap.objs.size + 1 ≤ H.objs.size := by rw [← hH, ← Heap.size_push (h := s.heap) (o := o)]; exact pushCells_size _ _
    have k1 : Ke B G s G { s with heap := H } := Ke.of st keep (Nat.le_refl _) (by show s.heap.objs.size ≤ H.objs.size; omega)
    have hW : ∀ a ∈ newW s scope.names, s.heap.objs.size ≤ a ∧ a < H.objs.size := fun a ha => by
      rcases List.mem_cons.mp ha with q | q
      · rw [q]; exact ⟨Nat.le_refl _, hsz⟩
      · obtain ⟨⟨y, c⟩, hy, rfl⟩ := List.mem_map.mp q
        have := ok.empty y c hy
        exact ⟨Nat.le_trans (Nat.le_succ _) this.2, this.1.lt⟩
    have kx : Kx B [] G s { G with O := newW s scope.names ++ G.O } { s with heap := H } :=
      Kx.own st k1 (fun a ha => (List.mem_append.mp ha).elim (fun q => .inr (hW a q)) .inl) fun a ha => List.mem_append_right _ ha
    have st1 := kx.st st (fun _ h => nomatch h)
    have up := kx.up st (fun _ h => nomatch h)
    have fresh : ∀ a, s.heap.objs.size ≤ a → a ∉ B.tb := fun a ha m => Nat.not_lt.mpr ha (st.lt a (st.sub a m))
    have fresh0 : ∀ a, s.heap.objs.size ≤ a → B.h0.get? a = none := fun a ha => by
      cases e : B.h0.get? a with
      | none => rfl
      | some o' =>
        have hn : a ∉ B.tb := fresh a ha
        exact absurd (Heap.lt_size (st.kp a o' hn e)) (Nat.not_lt.mpr ha)
    have hloc : H.get? s.heap.objs.size = some o := hH ▸ pushCells_keeps _ _ _ _ (Heap.get?_push_size _ (by rw [hod]; rfl))
    have se1 : Sees B { G with O := newW s scope.names ++ G.O } { s with heap := H } env Γ := by
      refine ⟨st1, by rw [hscope, hk], hglobals, hbl, by rw [hlocals]; exact fresh _ (Nat.le_refl _), ?_, fun x hx => ?_⟩
      · refine ⟨fun _ => none, ?_, fun x d hx hl => ?_⟩
        · rw [hlocals, ← hH, hod]; exact (Heap.Ns.new s.heap cc).keeps (pushCells_keeps _ _)
        · rw [hkind, look_of_mem ho (hc.only x d hx)] at hl; cases hl
      · rw [hkind] at hx
        rcases kc_cel hx with q | q
        · obtain ⟨c, hcl⟩ := cellsFrom_some (n := s.heap.objs.size + 1) (mem_of_look q)
          have hm := ok.empty x c (mem_of_lookup hcl)
          refine ⟨c, by rw [hcells, List.lookup_append, hcl]; rfl, fresh c (Nat.le_trans (Nat.le_succ _) hm.2), hm.1.lt, fun d hd => ?_⟩
          rw [look_of_mem ho (hc.only x d hd)] at q; cases q
        · obtain ⟨c, hcl, hd⟩ := hc.has x (mem_of_look q)
          have hnone : (cellsFrom (s.heap.objs.size + 1) scope.names []).lookup x = none := by
            cases e : (cellsFrom (s.heap.objs.size + 1) scope.names []).lookup x with
            | none => rfl
            | some c' => have := look_of_mem ho (cellsFrom_mem (mem_of_lookup e)); rw [this] at q; cases q
          refine ⟨c, by rw [hcells, List.lookup_append, hnone]; exact hcl, hc.nt x c hcl, Nat.lt_of_lt_of_le (hc.old x c (mem_of_lookup hcl)) (by show s.heap.objs.size ≤ H.objs.size; omega), fun d hxd => ?_⟩
          obtain ⟨v, hv, rv⟩ := hd d hxd
          exact ⟨v, hv.keeps keep, rv.up up⟩
    have ow1 : Own B { G with O := newW s scope.names ++ G.O } { s with heap := H } scope.names env (newW s scope.names) := by
      refine ⟨fun a ha => List.mem_append_left _ ha, fun a ha => fresh0 a (hW a ha).1, by rw [hlocals]; exact List.mem_cons_self, fun x hx => by rw [hkind, hx], fun x hx => ⟨by rw [hkind, hx], ?_⟩⟩
      obtain ⟨c, hcl⟩ := cellsFrom_some (n := s.heap.objs.size + 1) (mem_of_look hx)
      have hm := ok.empty x c (mem_of_lookup hcl)
      refine ⟨c, none, by rw [hcells, List.lookup_append, hcl]; rfl, hm.1, List.mem_cons_of_mem _ (lookup_mem hcl), fun y hy => ?_⟩
      rw [hcells, List.lookup_append] at hy
      cases e : (cellsFrom (s.heap.objs.size + 1) scope.names []).lookup y with
      | none =>
        rw [e] at hy
        have : cl.lookup y = some c := by simpa using hy
        have h1 := hc.old y c (mem_of_lookup this)
        have h2 := hm.2
        exact absurd h1 (Nat.not_lt.mpr (Nat.le_trans (Nat.le_succ _) h2))
      | some c' =>
        rw [e] at hy
        have : c' = c := by simpa using hy
        subst this
        exact name_of_addr ok.apart (mem_of_lookup e) (mem_of_lookup hcl)
    refine stores_ok _ (fun _ _ _ => rfl) hb se1 ow1 (r.up up) fun s' k' se' ow' => ?_
    refine hQ env _ s' rfl (kx.trans (Kx.of_kw st1 k') fun a ha => .inr (hW a ha).1) rfl se' ow' fun a ha => ⟨(hW a ha).1, Nat.lt_of_lt_of_le (hW a ha).2 k'.sz⟩
  cases around with
  | none =>
    simp only [newFunctionEnv, Option.isSome_none, Bool.false_eq_true, if_false]
    refine WP.bind ⟨@wpAny_alloc _ _ _ _ _ _ ?_⟩
    refine WP.bind ⟨@wpAny_layCells _ _ _ _ (fun name kind cells => by cases hkc : kind == NameKind.cell <;> simp [hkc]) _ _ _ _ ?_⟩
    rw [show ({ s with heap := s.heap.push { cls := .type "frame", data := .dict #[] } } : Shared).heap.objs.size = s.heap.objs.size + 1 from Heap.size_push ..]
    exact WP.bind ((main { cls := .type "frame", data := .dict #[] } _ rfl).post fun _ _ q => WP.pure q)
  | some outer =>
    simp only [newFunctionEnv, Option.isSome_some, if_true]
    refine WP.bind ⟨@wpAny_alloc _ _ _ _ _ _ ?_⟩
    refine WP.bind ⟨@wpAny_layCells _ _ _ _ (fun name kind cells => by cases hkc : kind == NameKind.cell <;> simp [hkc]) _ _ _ _ ?_⟩
    rw [show ({ s with heap := s.heap.push { cls := .type "dict", data := .dict #[] } } : Shared).heap.objs.size = s.heap.objs.size + 1 from Heap.size_push ..]
    exact WP.bind ((main { cls := .type "dict", data := .dict #[] } _ rfl).post fun _ _ q => WP.pure q)
end
end Mine

end
section
open PySem PySem.W PyProof.Rows
set_option Elab.async false
namespace Mine

/-- what is known of the module: its functions, its constants, the methods of its objects -/
structure Nv where
  N : Str → List D → Option D
  K : Str → Option D
  M : Str → D → List D → Option D
  A : Str → D → Option D
  MK : Str → D → List D → Str → D → Option D

noncomputable abbrev Ev := Kd → Gm → Expr → Option D

noncomputable def constD : Const → Option D
  | .none => some .none
  | .bool b => some (.bool b)
  | .int i => some (.int i)
  | .float x => some (.flt x)
  | .str s => some (.str s)
  | _ => none
noncomputable def nameD (X : Nv) (sc : Kd) (Γ : Gm) (x : Str) : Option D := match strEq x "__debug__" with
  | true => some (.bool true)
  | false => match kc (look sc x) with
    | .loc => look Γ x
    | .cel => match strEq x "__classdict__" with
      | true => none
      | false => look Γ x
    | .glo => match X.K x with
      | some d => some d
      | none => match strEq x "str" with
        | true => some (.typ "str")
        | false => match strEq x "list" with
          | true => some (.typ "list")
          | false => none
    | .no => none
noncomputable def isStar (e : Expr) : Bool := Nat.beq e.ctorIdx 22
noncomputable def each (ev : Expr → Option D) : List Expr → Option (List D)
  | [] => some []
  | e :: r => match isStar e with
    | true => none
    | false => match ev e with
      | none => none
      | some d => match each ev r with
        | none => none
        | some ds => some (d :: ds)
noncomputable def boolD (ev : Expr → Option D) (op : BoolOp) : List Expr → Option D
  | [] => none
  | e :: r => match ev e with
    | none => none
    | some d => match r with
      | [] => some d
      | _ :: _ => match truth d with
        | none => none
        | some t => match op, t with
          | .And, true => boolD ev op r
          | .Or, false => boolD ev op r
          | _, _ => some d
noncomputable def chainD (ev : Expr → Option D) : D → List CmpOp → List Expr → Option D
  | a, op :: ops, r :: rs => match ev r with
    | none => none
    | some b => match cmpD op a b with
      | none => none
      | some c => match ops, rs with
        | [], [] => some (.bool c)
        | _ :: _, _ :: _ => match c with
          | true => chainD ev b ops rs
          | false => some (.bool false)
        | _, _ => none
  | _, _, _ => none
noncomputable def baseOk : Expr → Bool
  | .Call (.Name _ _) [] [] _ => false
  | _ => true
noncomputable def callD (X : Nv) (ev : Expr → Option D) (sc : Kd) (f : Expr) (args : List Expr) (pos : Pos) : Option D := match f with
  | .Name x _ => match strEq x "__debug__" with
    | true => none
    | false => match kc (look sc x) with
      | .glo => match each ev args with
        | none => none
        | some ds => match X.N x ds with
          | some d => some d
          | none => match look prTab x with
            | some p => primD p.1 ds
            | none => none
      | _ => none
  | .Attribute o m apos => match apos.endLine == pos.line with
    | false => none
    | true => match baseOk o with
      | false => none
      | true => match Nat.ble args.length 20 with
        | false => none
        | true => match ev o with
          | none => none
          | some d => match each ev args with
            | none => none
            | some ds => match look mtTab m with
              | some t => methD t d ds
              | none => X.M m d ds
  | _ => none
noncomputable def kwOne : List Keyword → Option (Str × Expr)
  | [] => none
  | k :: ks => match ks with
    | [] => match k.arg with
      | some n => some (n, k.value)
      | none => none
    | _ :: _ => none
theorem kwOne_eq {ks : List Keyword} {p : Str × Expr} (h : kwOne ks = some p) : ∃ kp, ks = [⟨some p.1, p.2, kp⟩] := by
  cases ks with
  | nil => exact nsd h
  | cons k ks => cases ks with
    | cons _ _ => exact nsd h
    | nil => cases k with
      | mk a v q => cases a with
        | none => exact nsd h
        | some n => exact Option.some.inj h ▸ ⟨q, rfl⟩
noncomputable def callK (X : Nv) (ev : Expr → Option D) (f : Expr) (args : List Expr) (kws : List Keyword) (pos : Pos) : Option D := match f with
  | .Attribute o m apos => match apos.endLine == pos.line && (baseOk o && (Nat.ble args.length 20 && !args.isEmpty)) with
    | false => none
    | true => match kwOne kws with
      | none => none
      | some kw => match ev o with
        | none => none
        | some d => match each ev args with
          | none => none
          | some ds => match ev kw.2 with
            | none => none
            | some kd => X.MK m d ds kw.1 kd
  | _ => none
noncomputable def isName (e : Expr) : Bool := Nat.beq e.ctorIdx 23
noncomputable def partE (ev : Expr → Option D) : Option Expr → Option (Option Int)
  | none => some none
  | some e => match ev e with
    | none => none
    | some d => partD d
noncomputable def isSlice (e : Expr) : Bool := Nat.beq e.ctorIdx 26
noncomputable def subD (ev : Expr → Option D) (v i : Expr) : Option D := match ev v with
  | none => none
  | some a => match i with
    | .Slice lo hi st _ => match partE ev lo with
      | none => none
      | some l => match partE ev hi with
        | none => none
        | some h => match partE ev st with
          | none => none
          | some p => sliceD a l h p
    | i => match isSlice i with
      | true => none
      | false => match ev i with
        | none => none
        | some b => itemD a b

/-- comprehensions -/
noncomputable def isSet : Expr → Bool
  | .Set _ _ _ => true
  | _ => false
noncomputable def freeG (Γ : Gm) : Kd → Gm
  | [] => []
  | (x, k) :: r => match k with
    | .free => match look Γ x with
      | some d => (x, d) :: freeG Γ r
      | none => freeG Γ r
    | _ => freeG Γ r
noncomputable def celAll (sc : Kd) : Kd → Bool
  | [] => true
  | (x, k) :: r => match k with
    | .free => match kc (look sc x) with
      | .cel => celAll sc r
      | _ => false
    | .local => celAll sc r
    | .cell => celAll sc r
    | .globalImplicit => celAll sc r
    | _ => false
noncomputable def newT (Γ : Gm) : Expr → Bool
  | .Name x _ => match look Γ x with
    | some _ => false
    | none => true
  | .Tuple es _ _ => es.all fun e => match e with
    | .Name x _ => match look Γ x with
      | some _ => false
      | none => true
    | _ => false
  | _ => false
noncomputable def testsD (ev : Expr → Option D) : List Expr → Option Bool
  | [] => some true
  | e :: r => match ev e with
    | none => none
    | some d => match truth d with
      | none => none
      | some true => testsD ev r
      | some false => some false
noncomputable def compL (bind : D → Option Gm) (tests : Gm → Option Bool) (inner : Gm → Option (List D)) : List D → Option (List D)
  | [] => some []
  | x :: xs => match bind x with
    | none => none
    | some Γ => match tests Γ with
      | none => none
      | some false => compL bind tests inner xs
      | some true => match inner Γ with
        | none => none
        | some o => match compL bind tests inner xs with
          | none => none
          | some r => some (o ++ r)
noncomputable def bindN (sc : Kd) (Γ : Gm) (t : Expr) (x : D) : Option Gm := match newT Γ t with
  | true => bindT sc t x Γ
  | false => none
noncomputable def compI (rec : Ev) (sc : Kd) (elt : Expr) : List Comprehension → Gm → Option (List D)
  | [], Γ => match rec sc Γ elt with
    | none => none
    | some d => some [d]
  | g :: gs, Γ => match isSet g.iter with
    | false => match rec sc Γ g.iter with
      | none => none
      | some d => match iterD d with
        | none => none
        | some xs => compL (bindN sc Γ g.target) (fun Γ' => testsD (rec sc Γ') g.ifs) (compI rec sc elt gs) xs
    | true => none
noncomputable def scopeOk (sc : Kd) (scope : Scope) : Bool := match scope.kind with
  | .function => match once scope.names with
    | true => celAll sc scope.names
    | false => false
  | _ => false
noncomputable def allSync : List Comprehension → Bool
  | [] => true
  | g :: r => match g.is_async with
    | .ofNat 0 => allSync r
    | _ => false
noncomputable def compD (rec : Ev) (sc : Kd) (Γ : Gm) (elt : Expr) (gens : List Comprehension) (scope : Scope) : Option D := match gens with
  | [] => none
  | g :: gs => match allSync (g :: gs), isSet g.iter, scopeOk sc scope with
    | true, false, true => match rec sc Γ g.iter with
      | none => none
      | some d => match iterD d with
        | none => none
        | some xs => match compL (bindN scope.names (freeG Γ scope.names) g.target) (fun Γ' => testsD (rec scope.names Γ') g.ifs) (compI rec scope.names elt gs) xs with
          | none => none
          | some out => match Nat.ble out.length 1000 with
            | true => some (.lst out)
            | false => none
    | _, _, _ => none

noncomputable def evE1 (X : Nv) (rec : Ev) : Ev := fun sc Γ e => match e with
  | .Constant c _ _ => constD c
  | .Name x _ => nameD X sc Γ x
  | .BinOp l op r _ => match rec sc Γ l with
    | none => none
    | some a => match rec sc Γ r with
      | none => none
      | some b => binop op a b
  | .UnaryOp op x _ => match rec sc Γ x with
    | none => none
    | some a => unop op a
  | .BoolOp op es _ => boolD (rec sc Γ) op es
  | .IfExp t b o _ => match rec sc Γ t with
    | none => none
    | some c => match truth c with
      | none => none
      | some true => rec sc Γ b
      | some false => rec sc Γ o
  | .Compare l ops rs _ => match lastMarks ops rs with
    | true => none
    | false => match rec sc Γ l with
      | none => none
      | some a => chainD (rec sc Γ) a ops rs
  | .Call f args kws pos => match kws with
    | [] => callD X (rec sc Γ) sc f args pos
    | _ => callK X (rec sc Γ) f args kws pos
  | .Attribute o m _ => match isName o with
    | false => none
    | true => match rec sc Γ o with
      | none => none
      | some d => X.A m d
  | .Subscript v i _ => subD (rec sc Γ) v i
  | .List es _ => match each (rec sc Γ) es with
    | none => none
    | some ds => match Nat.ble ds.length 1000 with
      | true => some (.lst ds)
      | false => none
  | .Tuple es _ _ => match each (rec sc Γ) es with
    | none => none
    | some ds => match Nat.ble ds.length 1000 with
      | true => some (.tup ds)
      | false => none
  | .ListComp elt gens scope _ => compD rec sc Γ elt gens scope
  | _ => none

noncomputable def evE (X : Nv) (n : Nat) : Ev := Nat.rec (fun _ _ _ => none) (fun _ rec => evE1 X rec) n
theorem evE_succ (X : Nv) (n : Nat) : evE X (n + 1) = evE1 X (evE X n) := rfl

/-! what is to be shown -/
noncomputable def OkE (B : Bs) (L : Nat) (ev : Ev) : Prop := ∀ sc Γ e d, ev sc Γ e = some d → ∀ A G s env E Q, Room L A → Kn sc env → Sees B G s env Γ → Post B G s d Q → WP B A (eval e env) Q E s
noncomputable def OkT (B : Bs) (L : Nat) (ev : Ev) : Prop := ∀ sc Γ e d b, ev sc Γ e = some d → truth d = some b → ∀ A G s env E Q, Room L A → Kn sc env → Sees B G s env Γ → (∀ G' s', Ke B G s G' s' → Q b s') → WP B A (isTrue e env (eval e env)) Q E s

/-- a callee whose keeper is found without ado -/
noncomputable def KeepOk (B : Bs) (f : Value) : Prop := ∀ A G s E Q, St B G s → (∀ k, Q k s) → WP B A (keeperOf f) Q E s
noncomputable def OkCall (B : Bs) (L : Nat) (f : Value) (ds : List D) (d : D) : Prop := ∀ A G s vs E Q, Room L A → St B G s → RdL G s.heap vs ds → Post B G s d Q → WP B A (call f vs) Q E s
inductive NvN (B : Bs) (L : Nat) (x : Str) (ds : List D) (d : D) : Prop
  | mk (v : Value) (hv : B.mg x = some v) (hk : KeepOk B v) (ho : OkCall B L v ds d) : NvN B L x ds d
inductive NvM (B : Bs) (L : Nat) (x : Str) (d : D) (ds : List D) (r : D) : Prop
  | mk (f : Value) (hg : ∀ A G s E Q o pl, St B G s → Rd G s.heap o d → Q (f, [o]) s → WP B A (getMethod o x pl) Q E s) (hk : KeepOk B f) (ho : OkCall B L f (d :: ds) r) : NvM B L x d ds r
inductive NvKw (B : Bs) (L : Nat) (m : Str) (d : D) (ds : List D) (kn : Str) (kd r : D) : Prop
  | mk (fa : Addr) (o : Obj) (fd : FuncData) (hg : ∀ A G s E Q o pl, St B G s → Rd G s.heap o d → Q (.ref fa, [o]) s → WP B A (getMethod o m pl) Q E s) (ho : B.h0.get? fa = some o) (ht : fa ∉ B.tb) (hd : o.data = .func fd)
    (hc : ∀ A G s vs kv E Q, Room L A → St B G s → RdL G s.heap vs (d :: ds) → Rd G s.heap kv kd → Post B G s r Q → WP B A (call (.ref fa) vs [(kn, kv)]) Q E s) : NvKw B L m d ds kn kd r
structure NvOk (B : Bs) (L : Nat) (X : Nv) : Prop where
  n : ∀ x ds d, X.N x ds = some d → NvN B L x ds d
  k : ∀ x d, X.K x = some d → ∃ v, B.mg x = some v ∧ ∀ G s, St B G s → Rd G s.heap v d
  m : ∀ x d ds r, X.M x d ds = some r → NvM B L x d ds r
  p : ∀ x p, look prTab x = some p → B.mg x = none ∧ B.mb x = some p.1.val
  t : (B.mg "str" = none ∧ B.mb "str" = some (.type "str")) ∧ (B.mg "list" = none ∧ B.mb "list" = some (.type "list"))
  a : ∀ m d r, X.A m d = some r → ∀ A G s E Q o ex, St B G s → Rd G s.heap o d → Post B G s r Q → WP B A (getAttr o m ex) Q E s
  kw : ∀ m d ds kn kd r, X.MK m d ds kn kd = some r → NvKw B L m d ds kn kd r

section
variable {B : Bs} {A : Around} {G : Gh} {s : Shared} {Γ : Gm} {sc : Kd} {env : Env} {E : Value → Shared → Prop} {L : Nat} {X : Nv} {rec : Ev}

theorem star_plain {e : Expr} {es : List Expr} {env : Env} (h : isStar e = false) : starEach (e :: es) env = (false, eval e env) :: starEach es env := by cases e <;> first | exact ntf h | rfl
theorem base_plain {o : Expr} {m : Str} {env : Env} {w : Sem Value} (h : baseOk o = true) : attributeBase o m env w = w := by
  cases o <;> try rfl
  rename_i f as ks p
  cases f <;> try rfl
  cases as with
  | cons _ _ => rfl
  | nil => cases ks with
    | cons _ _ => rfl
    | nil => exact nft h
theorem sub_plain {i : Expr} (h : isSlice i = false) (o v : Value) : subscripted i false o v = operate [o, v] (getItem o v) := by cases i <;> first | exact ntf h | rfl
theorem each_inv {ev : Expr → Option D} {e : Expr} {es : List Expr} {ds : List D} (h : each ev (e :: es) = some ds) : ∃ d ds', isStar e = false ∧ ev e = some d ∧ each ev es = some ds' ∧ d :: ds' = ds := by
  unfold each at h
  split at h
  · exact nsd h
  · split at h
    · exact nsd h
    · split at h
      · exact nsd h
      · exact ⟨_, _, ‹_›, ‹_›, ‹_›, Option.some.inj h⟩
theorem each_ok (ok : OkE B L rec) (rm : Room L A) (kn : Kn sc env) {pos : Pos} : ∀ {es : List Expr} {ds : List D} {G : Gh} {s : Shared} {Q : List Value → Shared → Prop}, each (rec sc Γ) es = some ds → Sees B G s env Γ →
    (∀ vs G' s', Ke B G s G' s' → RdL G' s'.heap vs ds → Q vs s') → WP B A (spliced (backTo pos (starEach es env))) Q E s
  | [], ds, G, s, Q, h, se, hQ => WP.pure (hQ [] G s (.refl se.st) (Option.some.inj h ▸ .nil))
  | e :: es, ds, G, s, Q, h, se, hQ => by
    obtain ⟨d, ds', hst, hd, hds, rfl⟩ := each_inv h
    rw [star_plain hst]
    refine ⟨@Calls.spliced_cons _ _ _ _ _ _ _ (ok sc Γ e d hd A G s env E (fun v s₁ => wpAny B.M A (spliced (backTo pos (starEach es env))) (fun vs s₂ => Q (v :: vs) s₂) E s₁) rm kn se fun v G1 s1 k1 r1 => ?_).w⟩
    exact (each_ok ok rm kn hds (se.ke k1) fun vs G2 s2 k2 r2 => hQ _ G2 s2 (k1.trans k2) (.cons (r1.ke (se.st.ke k1) k2) r2)).w

theorem truthy_ok {v : Value} {d : D} {b : Bool} {Q : Bool → Shared → Prop} (st : St B G s) (r : Rd G s.heap v d) (h : truth d = some b) (hQ : ∀ G' s', Ke B G s G' s' → Q b s') : WP B A (truthy v) Q E s :=
  truth_ok st r h fun s' k => hQ G s' k

theorem const_ok {c : Const} {d : D} {k : Nat} {pos : Pos} {Q : Value → Shared → Prop} (st : St B G s) (h : constD c = some d) (hQ : Post B G s d Q) : WP B A (eval (.Constant c k pos) env) Q E s := by
  cases c <;> first | exact nsd h | (unfold constD at h; dsimp only at h; replace hQ := hQ.of h)
  · exact ⟨@PyProof.Rows.Constant_none _ _ _ _ _ _ _ _ (hQ.val st .none)⟩
  · exact ⟨@PyProof.Rows.Constant_bool _ _ _ _ _ _ _ _ _ (hQ.val st (.bool _))⟩
  · exact ⟨fun _ _ _ => hQ.tok1 st (.int _ _)⟩
  · exact ⟨fun _ _ _ => hQ.flt st⟩
  · exact ⟨fun _ _ _ => hQ.tok1 st (.str _ _)⟩

theorem not_eq {a b : Str} (h : strEq a b = false) : (a == b) = false := by rw [← strEq_eq]; exact h

theorem name_ok (nv : NvOk B L X) (kn : Kn sc env) (se : Sees B G s env Γ) {x : Str} {pos : Pos} {d : D} {Q : Value → Shared → Prop} (h : nameD X sc Γ x = some d) (hQ : Post B G s d Q) : WP B A (eval (.Name x pos) env) Q E s := by
  unfold nameD at h
  split at h
  · rename_i hdb
    cases h
    rw [strEq_iff.mp hdb]
    show WP B A (do standAt pos; debugConstant) Q E s
    refine WP.bind (WP.standAt ?_)
    unfold debugConstant
    exact WP.bind (WP.rule (WP.pure (hQ.val se.st (.bool _))))
  rename_i hdb
  have hdb := not_eq hdb
  split at h
  · rename_i hk
    rw [kn x] at hk
    exact ⟨@wpAny_Name _ _ _ _ _ _ _ _ (load_loc se (kc_loc hk) h hQ).w hdb⟩
  · rename_i hk
    rw [kn x] at hk
    split at h
    · first | exact nsd h | exact nft h | exact ntf h | cases h
    rename_i hcd
    exact ⟨@wpAny_Name _ _ _ _ _ _ _ _ (load_cel se hk h (not_eq hcd) hQ).w hdb⟩
  · rename_i hk
    rw [kn x] at hk
    split at h
    · rename_i d' hd
      cases h
      obtain ⟨v, hv, hr⟩ := nv.k x d hd
      exact ⟨@wpAny_Name _ _ _ _ _ _ _ _ (loadName_global se.kind (kc_glo hk) ⟨@Calls.loadGlobal_global _ _ _ _ _ _ _ _ _ (by rw [se.glob]; exact se.st.g) hv (hQ.val se.st (hr G s se.st))⟩).w hdb⟩
    · split at h
      · rename_i hx
        cases h
        have hx := strEq_iff.mp hx
        subst hx
        exact ⟨@wpAny_Name _ _ _ _ _ _ _ _ (loadName_global se.kind (kc_glo hk) ⟨@Calls.loadGlobal_builtin _ _ _ _ _ _ _ _ _ _ (by rw [se.glob]; exact se.st.g) nv.t.1.1 (by rw [se.blt]; exact se.st.b) nv.t.1.2 (hQ.val se.st (.typ _))⟩).w hdb⟩
      · split at h
        · rename_i hx
          cases h
          have hx := strEq_iff.mp hx
          subst hx
          exact ⟨@wpAny_Name _ _ _ _ _ _ _ _ (loadName_global se.kind (kc_glo hk) ⟨@Calls.loadGlobal_builtin _ _ _ _ _ _ _ _ _ _ (by rw [se.glob]; exact se.st.g) nv.t.2.1 (by rw [se.blt]; exact se.st.b) nv.t.2.2 (hQ.val se.st (.typ _))⟩).w hdb⟩
        · first | exact nsd h | exact nft h | exact ntf h | cases h
  · first | exact nsd h | exact nft h | exact ntf h | cases h

/-- a callee by its name -/
theorem callee_ok (kn : Kn sc env) (se : Sees B G s env Γ) {x : Str} {pos : Pos} {v : Value} {Q : Value → Shared → Prop} (hk : kc (look sc x) = .glo) (hdb : strEq x "__debug__" = false)
    (hv : B.mg x = some v ∨ (B.mg x = none ∧ B.mb x = some v)) (hQ : Q v s) : WP B A (eval (.Name x pos) env) Q E s := by
  rw [kn x] at hk
  refine ⟨@wpAny_Name _ _ _ _ _ _ _ _ (loadName_global se.kind (kc_glo hk) ?_).w (not_eq hdb)⟩
  rcases hv with hv | ⟨h1, h2⟩
  · exact ⟨@Calls.loadGlobal_global _ _ _ _ _ _ _ _ _ (by rw [se.glob]; exact se.st.g) hv hQ⟩
  · exact ⟨@Calls.loadGlobal_builtin _ _ _ _ _ _ _ _ _ _ (by rw [se.glob]; exact se.st.g) h1 (by rw [se.blt]; exact se.st.b) h2 hQ⟩

theorem KeepOk.builtin (id : String) : KeepOk B (.builtin id) := fun _ _ _ _ _ _ h => WP.pure (h _)
theorem KeepOk.type (T : String) : KeepOk B (.type T) := fun _ _ _ _ _ _ h => WP.pure (h _)
theorem KeepOk.pr (p : Pr) : KeepOk B p.val := by cases p <;> first | exact .builtin _ | exact .type _
theorem KeepOk.func {a : Addr} {o : Obj} {fd : FuncData} (ho : B.h0.get? a = some o) (ha : a ∉ B.tb) (hd : o.data = .func fd) : KeepOk B (.ref a) := fun A G s E Q st h => by
  unfold keeperOf
  refine WP.bind ⟨@wpAny_load _ _ _ _ _ _ _ (st.kp a o ha ho) ?_⟩
  rw [hd]
  exact WP.pure (h _)

theorem star_any : ∀ {es : List Expr} {ds : List D} {pos : Pos}, each (rec sc Γ) es = some ds → (backTo pos (starEach es env)).any (·.1) = false
  | [], _, _, _ => rfl
  | e :: es, ds, pos, h => by
    obtain ⟨d, ds', hst, hd, hds, rfl⟩ := each_inv h
    rw [star_plain hst]
    show (false || (backTo pos (starEach es env)).any (·.1)) = false
    rw [star_any hds]; rfl
theorem form_ok {as : List Expr} {ds : List D} {pos : Pos} {n : Nat} {ks : List (Option Str × Sem Value)} (h : each (rec sc Γ) as = some ds) (hn : n ≤ 21) (hk : ks = [] ∨ ∃ k m, ks = [(some k, m)]) : methodCallForm n (backTo pos (starEach as env)) ks = true := by
  unfold methodCallForm
  have h1 : (backTo pos (starEach as env)).all (fun x => !x.1) = true := by
    rw [List.all_eq_not_any_not]; simpa using star_any (env := env) (pos := pos) h
  rw [h1]
  rcases hk with rfl | ⟨k, m, rfl⟩
  · simp; omega
  · simp; omega
theorem mpos_ok {o : Expr} {env : Env} {apos pos : Pos} {b : Bool} (h : (apos.endLine == pos.line) = true) : methodCallPos b o env apos pos = pure pos := by unfold methodCallPos; simp [h]

theorem evalArgs_of {f : Value} {args : List (Bool × Sem Value)} {Q : Args → Shared → Prop} (hp : args.any (·.1) = false) (h : WP B A (spliced args) (fun vs s' => Q ⟨vs, []⟩ s') E s) : WP B A (evalArgs f true args []) Q E s := by
  cases args with
  | nil =>
    refine ⟨fun Γ p hΓ => ?_⟩
    exact @PySem.evalArgs_none B.M A E s f Q (h.w Γ p hΓ) Γ p hΓ
  | cons x r =>
    obtain ⟨b, t⟩ := x
    cases b with
    | true => simp at hp
    | false => exact ⟨@Calls.evalArgs_plain _ _ _ _ _ _ _ _ h.w⟩
end
end Mine

end
section
open PySem PySem.W PyProof.Rows
set_option Elab.async false
namespace Mine

section
variable {B : Bs} {A : Around} {G : Gh} {s : Shared} {Γ : Gm} {sc : Kd} {env : Env} {E : Value → Shared → Prop} {L : Nat} {X : Nv} {rec : Ev}

theorem callWith_ok {f : Value} {first : List Value} {args : List (Bool × Sem Value)} {pos : Pos} {Q : Value → Shared → Prop} (kf : KeepOk B f) (hp : args.any (·.1) = false)
    (h : WP B A (spliced args) (fun vs s' => (∃ G', St B G' s') ∧ WP B A (call f (first ++ vs)) Q E s') E s) : WP B A (callWith pos f first args []) Q E s := by
  unfold callWith
  refine WP.bind (WP.holding (evalArgs_of hp (h.post fun vs s1 h1 => WP.bind (WP.standAt ?_))))
  obtain ⟨⟨G1, st1⟩, h1⟩ := h1
  have tail : ∀ {t : Sem Value}, WP B A t Q E s1 → WP B A (t >>= fun r => holding [r] point >>= fun _ => pure r) Q E s1 :=
    fun ht => WP.bind (ht.post fun r s2 hr => WP.bind (WP.holding (WP.point (WP.pure hr))))
  rw [hp]
  simp only [List.any_nil, Bool.or_false]
  refine WP.bind (kf A G1 s1 E _ st1 fun k => ?_)
  cases k
  · dsimp only
    split
    · exact tail h1
    · exact tail (by unfold callMarked; exact WP.keep h1)
  · dsimp only
    split
    · exact tail h1
    · exact tail (by unfold callMarked; exact WP.keep h1)
  · exact tail h1
  · exact tail ⟨@wpAny_operating _ _ _ _ _ _ _ h1.w⟩

theorem callD_ok (nv : NvOk B L X) (ok : OkE B L rec) (rm : Room L A) (kn : Kn sc env) (se : Sees B G s env Γ) {f : Expr} {args : List Expr} {pos : Pos} {d : D} {Q : Value → Shared → Prop}
    (h : callD X (rec sc Γ) sc f args pos = some d) (hQ : Post B G s d Q) : WP B A (eval (.Call f args [] pos) env) Q E s := by
  cases f <;> first | exact nsd h | (unfold callD at h; dsimp only at h)
  case Name x px =>
    split at h
    · first | exact nsd h | exact nft h | exact ntf h | cases h
    rename_i hdb
    split at h
    · rename_i hk
      split at h
      · first | exact nsd h | exact nft h | exact ntf h | cases h
      rename_i ds hds
      have main : ∀ v, (B.mg x = some v ∨ (B.mg x = none ∧ B.mb x = some v)) → KeepOk B v → OkCall B L v ds d → WP B A (eval (.Call (.Name x px) args [] pos) env) Q E s := fun v hv kv ov => by
        show WP B A (do callWith pos (← eval (.Name x px) env) [] (backTo pos (starEach args env)) []) Q E s
        refine WP.bind (callee_ok kn se hk hdb hv ?_)
        refine callWith_ok kv (star_any hds) (each_ok ok rm kn hds se fun vs G1 s1 k1 r1 => ⟨⟨G1, se.st.ke k1⟩, ?_⟩)
        exact ov A G1 s1 vs E Q rm (se.st.ke k1) r1 (hQ.after k1)
      cases hn : X.N x ds with
      | some d' =>
        rw [hn] at h; cases h
        obtain ⟨v, hv, kv, ov⟩ := nv.n x ds d hn
        exact main v (.inl hv) kv ov
      | none =>
        rw [hn] at h
        simp only at h
        split at h
        · rename_i p hp
          obtain ⟨h1, h2⟩ := nv.p x p hp
          exact main _ (.inr ⟨h1, h2⟩) (.pr p.1) fun A' G' s' vs E' Q' rm' st' r' hQ' => primD_ok rm' st' r' h hQ'
        · first | exact nsd h | exact nft h | exact ntf h | cases h
    · first | exact nsd h | exact nft h | exact ntf h | cases h
  case Attribute o m apos =>
    split at h
    · first | exact nsd h | exact nft h | exact ntf h | cases h
    rename_i hline
    split at h
    · first | exact nsd h | exact nft h | exact ntf h | cases h
    rename_i hbase
    split at h
    · first | exact nsd h | exact nft h | exact ntf h | cases h
    rename_i hlen
    split at h
    · first | exact nsd h | exact nft h | exact ntf h | cases h
    rename_i a ha
    split at h
    · first | exact nsd h | exact nft h | exact ntf h | cases h
    rename_i ds hds
    have hb : attributeBase o m env (eval o env) = eval o env := base_plain hbase
    have hlen' : args.length ≤ 20 := Nat.le_of_ble_eq_true hlen
    have hany := star_any (env := env) (pos := pos) hds
    have hform : methodCallForm (args.length + ([] : List Keyword).length) (backTo pos (starEach args env)) (backToKw pos (keywordEach [] env)) = true := form_ok hds (Nat.le_succ_of_le hlen') (.inl rfl)
    have main : ∀ f, (∀ A G s E Q ov pl, St B G s → Rd G s.heap ov a → Q (f, [ov]) s → WP B A (getMethod ov m pl) Q E s) → KeepOk B f → OkCall B L f (a :: ds) d → WP B A (eval (.Call (.Attribute o m apos) args [] pos) env) Q E s := fun f gm kf of => by
      rw [arm_eval_Call, hb]
      refine WP.bind (ok sc Γ o a ha A G s env E _ rm kn se fun ov G1 s1 k1 r1 => ?_)
      refine WP.bind (WP.standAt ?_)
      unfold methodCall calleeOf
      rw [hform, if_pos rfl]
      refine WP.bind (WP.holding (gm A G1 s1 E _ ov _ (se.st.ke k1) r1 ?_))
      rw [mpos_ok hline]
      refine WP.bind (WP.pure ?_)
      refine callWith_ok kf hany (each_ok ok rm kn hds (se.ke k1) fun vs G2 s2 k2 r2 => ⟨⟨G2, (se.st.ke k1).ke k2⟩, ?_⟩)
      exact of A G2 s2 (ov :: vs) E Q rm ((se.st.ke k1).ke k2) (.cons (r1.ke (se.st.ke k1) k2) r2) (hQ.after (k1.trans k2))
    split at h
    · rename_i t ht
      have hm := mtTab_name ht
      subst hm
      obtain ⟨f1, f2, f3⟩ := mt_facts t
      refine main (.builtin t.id) (fun A G s E Q ov pl st r hq => ?_) (.builtin _) fun A' G' s' vs E' Q' rm' st' r' hQ' => ?_
      · obtain ⟨t1, t2⟩ := methT_ok r (methD_T h)
        exact ⟨@getMethod_builtin _ _ _ _ _ _ _ _ _ _ t1 f1 f2 f3 t2 hq⟩
      · exact r'.consK fun _ _ r1 r2 => methD_ok rm' st' r1 r2 h hQ'
    · obtain ⟨f, gm, kf, of⟩ := nv.m m a ds d h
      exact main f gm kf of

theorem callK_ok (nv : NvOk B L X) (ok : OkE B L rec) (rm : Room L A) (kn : Kn sc env) (se : Sees B G s env Γ) {f : Expr} {args : List Expr} {kws : List Keyword} {pos : Pos} {d : D} {Q : Value → Shared → Prop}
    (h : callK X (rec sc Γ) f args kws pos = some d) (hQ : Post B G s d Q) : WP B A (eval (.Call f args kws pos) env) Q E s := by
  cases f <;> first | exact nsd h | (unfold callK at h; dsimp only at h)
  case Attribute o m apos =>
    split at h
    · exact nsd h
    rename_i hc
    obtain ⟨hline, hc2⟩ := Bool.and_eq_true_iff.mp hc
    obtain ⟨hbase, hc3⟩ := Bool.and_eq_true_iff.mp hc2
    obtain ⟨hlen, hne⟩ := Bool.and_eq_true_iff.mp hc3
    cases args with
    | nil => exact nft hne
    | cons e0 rest =>
        split at h
        · exact nsd h
        rename_i kw hkw
        obtain ⟨kpos, rfl⟩ := kwOne_eq hkw
        split at h
        · exact nsd h
        rename_i a ha
        split at h
        · exact nsd h
        rename_i ds hds
        split at h
        · exact nsd h
        rename_i kd hkd
        obtain ⟨kname, ve⟩ := kw
        dsimp only at hkd h ⊢
        obtain ⟨fa, of, fd, gm, hfo, hft, hfd, of'⟩ := nv.kw m a ds kname kd d h
        have hb : attributeBase o m env (eval o env) = eval o env := base_plain hbase
        have hlen' : (e0 :: rest).length ≤ 20 := Nat.le_of_ble_eq_true hlen
        have hany := star_any (env := env) (pos := pos) hds
        have hform : methodCallForm ((e0 :: rest).length + [(⟨some kname, ve, kpos⟩ : Keyword)].length) (backTo pos (starEach (e0 :: rest) env)) (backToKw pos (keywordEach [⟨some kname, ve, kpos⟩] env)) = true := form_ok hds (Nat.succ_le_succ hlen') (.inr ⟨kname, _, rfl⟩)
        rw [arm_eval_Call, hb]
        refine WP.bind (ok sc Γ o a ha A G s env E _ rm kn se fun ov G1 s1 k1 r1 => ?_)
        refine WP.bind (WP.standAt ?_)
        unfold methodCall calleeOf
        rw [hform, if_pos rfl]
        refine WP.bind (WP.holding (gm A G1 s1 E _ ov _ (se.st.ke k1) r1 ?_))
        rw [mpos_ok hline]
        refine WP.bind (WP.pure ?_)
        have hst : ∃ x r, backTo pos (starEach (e0 :: rest) env) = (false, x) :: r := by
          obtain ⟨_, _, hst0, _, _, _⟩ := each_inv hds
          exact ⟨_, _, by rw [star_plain hst0]; rfl⟩
        obtain ⟨x1, r1', hx1⟩ := hst
        have he := each_ok (E := E) (pos := pos) (s := s1) (G := G1) (env := env) (A := A) ok rm kn hds (se.ke k1) (Q := fun vs s2 => WP B A (evalAll ((backToKw pos (keywordEach [⟨some kname, ve, kpos⟩] env)).map (·.2))) (fun ks s3 => (s3.heap.get? fa = some of ∧ of.data = .func fd) ∧ WP B A (call (.ref fa) ([ov] ++ vs) ([kname].zip ks)) Q E s3) E s2) fun vs G2 s2 k2 r2 => ?_
        · rw [hx1] at he ⊢
          exact ⟨@callWith_function_kw _ _ _ _ _ _ _ _ _ _ _ _ (@evalArgs_kw _ _ _ _ _ _ _ _ _ rfl (@wpAny_mono _ _ _ _ _ _ _ _ _ he.w (fun vs s2 q => @wpAny_mono _ _ _ _ _ _ _ _ _ q.w (fun ks s3 q => ⟨q.1, q.2.w⟩) fun _ _ x => x) fun _ _ x => x))⟩
        · show WP B A (evalAll [do let v ← eval ve env; standAt pos; pure v]) _ E s2
          have st2 := (se.st.ke k1).ke k2
          rw [evalAll]
          refine WP.bind (WP.bind (ok sc Γ ve kd hkd A G2 s2 env E _ rm kn ((se.ke k1).ke k2) fun kv G3 s3 k3 r3 => WP.bind (WP.standAt (WP.pure (WP.bind (WP.holding (WP.pure (a := []) (WP.pure ?_))))))))
          have st3 := st2.ke k3
          refine ⟨⟨st3.kp fa of hft hfo, hfd⟩, ?_⟩
          exact of' A G3 s3 (ov :: vs) kv E Q rm st3 (.cons ((r1.ke (se.st.ke k1) k2).ke st2 k3) (r2.ke st2 k3)) r3 (hQ.after ((k1.trans k2).trans k3))

theorem part_eval (ok : OkE B L rec) (rm : Room L A) (kn : Kn sc env) (se : Sees B G s env Γ) {e : Option Expr} {p : Option Int} {Q : Value → Shared → Prop} (h : partE (rec sc Γ) e = some p)
    (hQ : ∀ v d G' s', Ke B G s G' s' → Rd G' s'.heap v d → partD d = some p → Q v s') : WP B A (evalPart e env) Q E s := by
  cases e with
  | none =>
    simp only [partE] at h; cases h
    exact WP.pure (hQ _ .none G s (.refl se.st) .none rfl)
  | some e =>
    simp only [partE] at h
    split at h
    · first | exact nsd h | exact nft h | exact ntf h | cases h
    rename_i d hd
    exact ok sc Γ e d hd A G s env E _ rm kn se fun v G1 s1 k1 r1 => hQ v d G1 s1 k1 r1 h

theorem subD_ok (ok : OkE B L rec) (rm : Room L A) (kn : Kn sc env) (se : Sees B G s env Γ) {v i : Expr} {pos : Pos} {d : D} {Q : Value → Shared → Prop} (h : subD (rec sc Γ) v i = some d) (hQ : Post B G s d Q) :
    WP B A (eval (.Subscript v i pos) env) Q E s := by
  unfold subD at h
  split at h
  · first | exact nsd h | exact nft h | exact ntf h | cases h
  rename_i a ha
  refine ⟨@PyProof.Rows.Subscript_ _ _ _ _ _ _ _ _ _ (ok sc Γ v a ha A G s env E _ rm kn se fun o G1 s1 k1 r1 => ?_).w⟩
  have se1 := se.ke k1
  split at h
  · rename_i lo hi st p
    split at h
    · first | exact nsd h | exact nft h | exact ntf h | cases h
    rename_i l hl
    split at h
    · first | exact nsd h | exact nft h | exact ntf h | cases h
    rename_i hh hhi
    split at h
    · first | exact nsd h | exact nft h | exact ntf h | cases h
    rename_i sp hsp
    refine @wpAny_Slice _ _ _ _ _ _ _ _ _ _ (part_eval ok rm kn se1 hl fun vl dl G2 s2 k2 r2 p2 => ?_).w
    refine (part_eval ok rm kn (se1.ke k2) hhi fun vu du G3 s3 k3 r3 p3 => ?_).w
    refine (part_eval ok rm kn ((se1.ke k2).ke k3) hsp fun vs dv G4 s4 k4 r4 p4 => ?_).w
    have st1 := se1.st
    have st2 := st1.ke k2
    have st3 := st2.ke k3
    exact (slice_ok (st3.ke k4) (((r1.ke st1 k2).ke st2 k3).ke st3 k4) ((r2.ke st2 k3).ke st3 k4) (r3.ke st3 k4) r4 p2 p3 p4 h (fun o i => by cases st <;> exact ⟨_, rfl⟩) (hQ.after (((k1.trans k2).trans k3).trans k4))).w
  · rename_i hni
    split at h
    · first | exact nsd h | exact nft h | exact ntf h | cases h
    rename_i his
    split at h
    · first | exact nsd h | exact nft h | exact ntf h | cases h
    rename_i b hb
    refine (ok sc Γ i b hb A G1 s1 env E _ rm kn se1 fun iv G2 s2 k2 r2 => ?_).w
    refine (item_ok (se1.st.ke k2) (r1.ke se1.st k2) r2 h (fun o i' => ?_) (hQ.after (k1.trans k2))).w
    exact sub_plain his o i'

theorem boolD_ok (ok : OkE B L rec) (rm : Room L A) (kn : Kn sc env) {op : BoolOp} {pos : Pos} : ∀ {es : List Expr} {d : D} {G : Gh} {s : Shared} {Q : Value → Shared → Prop}, boolD (rec sc Γ) op es = some d → Sees B G s env Γ → Post B G s d Q →
    WP B A (eval (.BoolOp op es pos) env) Q E s
  | [], d, G, s, Q, h, _, _ => by cases h
  | e :: es, d, G, s, Q, h, se, hQ => by
    unfold boolD at h
    split at h
    · first | exact nsd h | exact nft h | exact ntf h | cases h
    rename_i d1 hd1
    cases es with
    | nil =>
      cases h
      exact ⟨@PyProof.Rows.BoolOp_one _ _ _ _ _ _ _ _ _ (ok sc Γ e d hd1 A G s env E Q rm kn se hQ).w⟩
    | cons e2 es =>
      simp only at h
      split at h
      · first | exact nsd h | exact nft h | exact ntf h | cases h
      rename_i t ht
      cases op <;> cases t <;> simp only at h
      · cases h
        refine ⟨@PyProof.Rows.BoolOp_and _ _ _ _ _ _ _ _ _ _ (ok sc Γ e d hd1 A G s env E _ rm kn se fun v G1 s1 k1 r1 => (truthy_ok (se.st.ke k1) r1 ht fun G2 s2 k2 => ?_).w).w⟩
        exact hQ v G2 s2 (k1.trans k2) (r1.ke (se.st.ke k1) k2)
      · refine ⟨@PyProof.Rows.BoolOp_and _ _ _ _ _ _ _ _ _ _ (ok sc Γ e d1 hd1 A G s env E _ rm kn se fun v G1 s1 k1 r1 => (truthy_ok (se.st.ke k1) r1 ht fun G2 s2 k2 => ?_).w).w⟩
        exact (boolD_ok ok rm kn h ((se.ke k1).ke k2) (hQ.after (k1.trans k2))).w
      · refine ⟨@PyProof.Rows.BoolOp_or _ _ _ _ _ _ _ _ _ _ (ok sc Γ e d1 hd1 A G s env E _ rm kn se fun v G1 s1 k1 r1 => (truthy_ok (se.st.ke k1) r1 ht fun G2 s2 k2 => ?_).w).w⟩
        exact (boolD_ok ok rm kn h ((se.ke k1).ke k2) (hQ.after (k1.trans k2))).w
      · cases h
        refine ⟨@PyProof.Rows.BoolOp_or _ _ _ _ _ _ _ _ _ _ (ok sc Γ e d hd1 A G s env E _ rm kn se fun v G1 s1 k1 r1 => (truthy_ok (se.st.ke k1) r1 ht fun G2 s2 k2 => ?_).w).w⟩
        exact hQ v G2 s2 (k1.trans k2) (r1.ke (se.st.ke k1) k2)

theorem boolT_ok (ok : OkT B L rec) (rm : Room L A) (kn : Kn sc env) {op : BoolOp} {pos : Pos} {whole : Sem Value} : ∀ {es : List Expr} {d : D} {b : Bool} {G : Gh} {s : Shared} {Q : Bool → Shared → Prop}, boolD (rec sc Γ) op es = some d → truth d = some b → Sees B G s env Γ →
    (∀ G' s', Ke B G s G' s' → Q b s') → WP B A (isTrue (.BoolOp op es pos) env whole) Q E s
  | [], d, b, G, s, Q, h, _, _, _ => by cases h
  | e :: es, d, b, G, s, Q, h, hb, se, hQ => by
    unfold boolD at h
    split at h
    · first | exact nsd h | exact nft h | exact ntf h | cases h
    rename_i d1 hd1
    cases es with
    | nil =>
      cases h
      cases op
      · refine ⟨@PyProof.Rows.isTrue_and _ _ _ _ _ _ _ _ _ _ (ok sc Γ e d b hd1 hb A G s env E _ rm kn se fun G1 s1 k1 => ?_).w⟩
        cases b
        · exact hQ G1 s1 k1
        · exact @PyProof.Rows.isTrue_and_nil _ _ _ _ _ _ _ _ (hQ G1 s1 k1)
      · refine ⟨@PyProof.Rows.isTrue_or _ _ _ _ _ _ _ _ _ _ (ok sc Γ e d b hd1 hb A G s env E _ rm kn se fun G1 s1 k1 => ?_).w⟩
        cases b
        · exact @PyProof.Rows.isTrue_or_nil _ _ _ _ _ _ _ _ (hQ G1 s1 k1)
        · exact hQ G1 s1 k1
    | cons e2 es =>
      simp only at h
      split at h
      · first | exact nsd h | exact nft h | exact ntf h | cases h
      rename_i t ht
      cases op <;> cases t <;> simp only at h
      · cases h
        rw [ht] at hb; cases hb
        refine ⟨@PyProof.Rows.isTrue_and _ _ _ _ _ _ _ _ _ _ (ok sc Γ e d false hd1 ht A G s env E _ rm kn se fun G1 s1 k1 => ?_).w⟩
        exact hQ G1 s1 k1
      · refine ⟨@PyProof.Rows.isTrue_and _ _ _ _ _ _ _ _ _ _ (ok sc Γ e d1 true hd1 ht A G s env E _ rm kn se fun G1 s1 k1 => ?_).w⟩
        exact (boolT_ok ok rm kn h hb (se.ke k1) fun G2 s2 k2 => hQ G2 s2 (k1.trans k2)).w
      · refine ⟨@PyProof.Rows.isTrue_or _ _ _ _ _ _ _ _ _ _ (ok sc Γ e d1 false hd1 ht A G s env E _ rm kn se fun G1 s1 k1 => ?_).w⟩
        exact (boolT_ok ok rm kn h hb (se.ke k1) fun G2 s2 k2 => hQ G2 s2 (k1.trans k2)).w
      · cases h
        rw [ht] at hb; cases hb
        refine ⟨@PyProof.Rows.isTrue_or _ _ _ _ _ _ _ _ _ _ (ok sc Γ e d true hd1 ht A G s env E _ rm kn se fun G1 s1 k1 => ?_).w⟩
        exact hQ G1 s1 k1

theorem chainD_inv {ev : Expr → Option D} {op : CmpOp} {ops : List CmpOp} {r : Expr} {rs : List Expr} {a d : D} (h : chainD ev a (op :: ops) (r :: rs) = some d) : ∃ b c, ev r = some b ∧ cmpD op a b = some c ∧
    ((ops = [] ∧ rs = [] ∧ D.bool c = d) ∨ ∃ op2 ops2 r2 rs2, ops = op2 :: ops2 ∧ rs = r2 :: rs2 ∧ ((c = true ∧ chainD ev b ops rs = some d) ∨ (c = false ∧ D.bool false = d))) := by
  unfold chainD at h
  split at h
  · exact nsd h
  · split at h
    · exact nsd h
    · refine ⟨_, _, ‹_›, ‹_›, ?_⟩
      split at h
      · exact .inl ⟨rfl, rfl, Option.some.inj h⟩
      · refine .inr ⟨_, _, _, _, rfl, rfl, ?_⟩
        split at h
        · exact .inl ⟨rfl, h⟩
        · exact .inr ⟨rfl, Option.some.inj h⟩
      · exact nsd h
theorem chainD_bool {ev : Expr → Option D} : ∀ {ops : List CmpOp} {rs : List Expr} {a d : D}, chainD ev a ops rs = some d → ∃ b, d = .bool b
  | [], _, _, _, h => nsd h
  | _ :: _, [], _, _, h => nsd h
  | op :: ops, r :: rs, a, d, h => by
    obtain ⟨b, c, _, _, ⟨_, _, rfl⟩ | ⟨_, _, _, _, _, _, ⟨_, h⟩ | ⟨_, rfl⟩⟩⟩ := chainD_inv h
    · exact ⟨_, rfl⟩
    · exact chainD_bool h
    · exact ⟨_, rfl⟩

/-- the links as a value -/
theorem chain_ok (ok : OkE B L rec) (rm : Room L A) (kn : Kn sc env) {pos : Pos} {Q : Value → Shared → Prop} : ∀ {ops : List CmpOp} {rs : List Expr} {x : Value} {a : D} {b : Bool} {G : Gh} {s : Shared}, chainD (rec sc Γ) a ops rs = some (.bool b) → Sees B G s env Γ → Rd G s.heap x a →
    (∀ G' s', Ke B G s G' s' → Q (.bool b) s') → WP B A (compareChain pos x ops (evalEach rs env)) Q E s
  | [], _, _, _, _, _, _, h, _, _, _ => nsd h
  | _ :: _, [], _, _, _, _, _, h, _, _, _ => nsd h
  | op :: ops, r :: rs, x, a, b, G, s, h, se, rx, hQ => by
    obtain ⟨y, c, hy, hc, hh⟩ := chainD_inv h
    clear h
    rcases hh with ⟨rfl, rfl, h⟩ | ⟨op2, ops2, r2, rs2, e1, e2, ⟨rfl, h⟩ | ⟨rfl, h⟩⟩
    · obtain rfl := D.bool.inj h
      exact ⟨@PyProof.Rows.chain_last _ _ _ _ _ _ _ _ _ (ok sc Γ r y hy A G s env E _ rm kn se fun v G1 s1 k1 r1 => (cmpD_ok rm (se.st.ke k1) (rx.ke se.st k1) r1 hc (hQ G1 s1 k1)).w).w⟩
    · have ih := fun {x a b G s} => chain_ok ok rm kn (pos := pos) (Q := Q) (ops := ops) (rs := rs) (x := x) (a := a) (b := b) (G := G) (s := s)
      rw [e1, e2] at ih ⊢
      rw [e1, e2] at h
      exact ⟨@PyProof.Rows.chain_link _ _ _ _ _ _ _ _ _ _ _ _ _ (ok sc Γ r y hy A G s env E _ rm kn se fun v G1 s1 k1 r1 => (cmpD_ok rm (se.st.ke k1) (rx.ke se.st k1) r1 hc (@wpAny_truthy_bool _ _ _ _ _ _ (ih h (se.ke k1) r1 fun G2 s2 k2 => hQ G2 s2 (k1.trans k2)).w)).w).w⟩
    · obtain rfl := D.bool.inj h
      rw [e1, e2]
      refine ⟨@PyProof.Rows.chain_link _ _ _ _ _ _ _ _ _ _ _ _ _ (ok sc Γ r y hy A G s env E _ rm kn se fun v G1 s1 k1 r1 => (cmpD_ok rm (se.st.ke k1) (rx.ke se.st k1) r1 hc (@wpAny_truthy_bool _ _ _ _ _ _ ?_)).w).w⟩
      exact hQ G1 s1 k1
/-- the links as a test -/
theorem chainT_ok (ok : OkE B L rec) (rm : Room L A) (kn : Kn sc env) {pos : Pos} {Q : Bool → Shared → Prop} : ∀ {ops : List CmpOp} {rs : List Expr} {x : Value} {a : D} {b : Bool} {G : Gh} {s : Shared}, chainD (rec sc Γ) a ops rs = some (.bool b) → Sees B G s env Γ → Rd G s.heap x a →
    (∀ G' s', Ke B G s G' s' → Q b s') → WP B A (testChain pos x ops (evalEach rs env)) Q E s
  | [], _, _, _, _, _, _, h, _, _, _ => nsd h
  | _ :: _, [], _, _, _, _, _, h, _, _, _ => nsd h
  | op :: ops, r :: rs, x, a, b, G, s, h, se, rx, hQ => by
    obtain ⟨y, c, hy, hc, hh⟩ := chainD_inv h
    clear h
    rcases hh with ⟨rfl, rfl, h⟩ | ⟨op2, ops2, r2, rs2, e1, e2, ⟨rfl, h⟩ | ⟨rfl, h⟩⟩
    · obtain rfl := D.bool.inj h
      exact ⟨@PyProof.Rows.test_last _ _ _ _ _ _ _ _ _ (ok sc Γ r y hy A G s env E _ rm kn se fun v G1 s1 k1 r1 => (cmpD_ok rm (se.st.ke k1) (rx.ke se.st k1) r1 hc (@wpAny_truthy_bool _ _ _ _ _ _ (hQ G1 s1 k1))).w).w⟩
    · have ih := fun {x a b G s} => chainT_ok ok rm kn (pos := pos) (Q := Q) (ops := ops) (rs := rs) (x := x) (a := a) (b := b) (G := G) (s := s)
      rw [e1, e2] at ih ⊢
      rw [e1, e2] at h
      exact ⟨@PyProof.Rows.test_link _ _ _ _ _ _ _ _ _ _ _ _ _ (ok sc Γ r y hy A G s env E _ rm kn se fun v G1 s1 k1 r1 => (cmpD_ok rm (se.st.ke k1) (rx.ke se.st k1) r1 hc (@wpAny_truthy_bool _ _ _ _ _ _ (ih h (se.ke k1) r1 fun G2 s2 k2 => hQ G2 s2 (k1.trans k2)).w)).w).w⟩
    · obtain rfl := D.bool.inj h
      rw [e1, e2]
      refine ⟨@PyProof.Rows.test_link _ _ _ _ _ _ _ _ _ _ _ _ _ (ok sc Γ r y hy A G s env E _ rm kn se fun v G1 s1 k1 r1 => (cmpD_ok rm (se.st.ke k1) (rx.ke se.st k1) r1 hc (@wpAny_truthy_bool _ _ _ _ _ _ ?_)).w).w⟩
      exact hQ G1 s1 k1

theorem cmp_ok (ok : OkE B L rec) (rm : Room L A) (kn : Kn sc env) (se : Sees B G s env Γ) {l : Expr} {ops : List CmpOp} {rs : List Expr} {pos : Pos} {a d : D} (hm : lastMarks ops rs = false) (ha : rec sc Γ l = some a) (h : chainD (rec sc Γ) a ops rs = some d) :
    (∀ {Q : Value → Shared → Prop}, Post B G s d Q → WP B A (eval (.Compare l ops rs pos) env) Q E s) ∧
    (∀ {Q : Bool → Shared → Prop} {b : Bool} {whole : Sem Value}, truth d = some b → (∀ G' s', Ke B G s G' s' → Q b s') → WP B A (isTrue (.Compare l ops rs pos) env whole) Q E s) := by
  obtain ⟨b, rfl⟩ := chainD_bool h
  constructor
  · intro Q hQ
    show WP B A (do compareChain pos (← eval l env) ops (markedEach ops rs (evalEach rs env))) Q E s
    rw [markedEach_of_false _ _ _ hm]
    refine WP.bind (ok sc Γ l a ha A G s env E _ rm kn se fun v G1 s1 k1 r1 => chain_ok ok rm kn h (se.ke k1) r1 fun G2 s2 k2 => hQ _ G2 s2 (k1.trans k2) (.bool b))
  · intro Q b' whole hb hQ
    cases hb
    show WP B A (do testChain pos (← eval l env) ops (markedEach ops rs (evalEach rs env))) Q E s
    rw [markedEach_of_false _ _ _ hm]
    refine WP.bind (ok sc Γ l a ha A G s env E _ rm kn se fun v G1 s1 k1 r1 => chainT_ok ok rm kn h (se.ke k1) r1 fun G2 s2 k2 => hQ G2 s2 (k1.trans k2))
end
end Mine

end
section
open PySem PySem.W PyProof.Rows
set_option Elab.async false
namespace Mine

noncomputable def testsF (env : Env) : Expr → Bool → Sem (ForInStep Bool) := fun c r => if r = true then do let ok ← isTrue c env (eval c env); pure (ForInStep.yield ok) else pure (ForInStep.yield r)

noncomputable def emitT (acc : Value) (elt : Expr) (env : Env) : Sem Unit := eval elt env >>= fun x => call (.builtin "list.append") [acc, x] >>= fun _ => pure ()
noncomputable def moreT (e : Expr) (depth : Nat) (acc : Value) (iter' : Expr) (env : Env) : Sem Unit :=
  eval iter' env >>= fun x => standAt iter'.pos >>= fun _ => foldedSetIterable iter' env x >>= fun x => holding [x] (pyIter x) >>= fun i => runOwn (.compStart e (depth + 1) i acc env) env >>= fun _ => pure ()
noncomputable def turnT (e : Expr) (depth : Nat) (it acc : Value) (target iter : Expr) (ifs : List Expr) (inner : Sem Unit) (env : Env) : Sem Fin :=
  standAt iter.pos >>= fun _ => pyNext it >>= fun r => match r with
      | none => pure (.done .next)
      | some v => letOwnedTupleGo target it v >>= fun _ => assign target env v >>= fun _ => forIn ifs true (testsF env) >>= fun ok => if ok = true then
          (inner >>= fun _ => again (.compLoop e depth it acc env))
          else again (.compLoop e depth it acc env)

theorem compTurn_emit {elt : Expr} {gens : List Comprehension} {scope : Scope} {pos : Pos} {depth : Nat} {it acc : Value} {env : Env} {target iter : Expr} {ifs : List Expr} (h1 : gens[depth]? = some ⟨target, iter, ifs, 0⟩) (h2 : gens[depth + 1]? = none) :
    compTurn (.ListComp elt gens scope pos) depth it acc env = turnT (.ListComp elt gens scope pos) depth it acc target iter ifs (emitT acc elt env) env := by
  unfold compTurn turnT emitT
  simp only [h1, h2]
  rfl

theorem compTurn_more {elt : Expr} {gens : List Comprehension} {scope : Scope} {pos : Pos} {depth : Nat} {it acc : Value} {env : Env} {target iter target' iter' : Expr} {ifs ifs' : List Expr} (h1 : gens[depth]? = some ⟨target, iter, ifs, 0⟩)
    (h2 : gens[depth + 1]? = some ⟨target', iter', ifs', 0⟩) :
    compTurn (.ListComp elt gens scope pos) depth it acc env = turnT (.ListComp elt gens scope pos) depth it acc target iter ifs (moreT (.ListComp elt gens scope pos) depth acc iter' env) env := by
  unfold compTurn turnT moreT
  simp only [h1, h2, bind_assoc, pure_bind]
  rfl

section
variable {B : Bs} {A : Around} {G : Gh} {s : Shared} {Γ : Gm} {sc : Kd} {env : Env} {E : Value → Shared → Prop} {L : Nat} {X : Nv} {rec : Ev}

theorem tests_skip (env : Env) : ∀ (l : List Expr), forIn l false (testsF env) = (pure false : Sem Bool)
  | [] => List.forIn_nil
  | e :: l => by
    rw [List.forIn_cons]
    show (pure (ForInStep.yield false) >>= _) = _
    rw [pure_bind]
    exact tests_skip env l

theorem tests_ok (okT : OkT B L rec) (rm : Room L A) (kn : Kn sc env) : ∀ {es : List Expr} {b : Bool} {G : Gh} {s : Shared} {Q : Bool → Shared → Prop}, testsD (rec sc Γ) es = some b → Sees B G s env Γ → (∀ G' s', Ke B G s G' s' → Q b s') →
    WP B A (forIn es true (testsF env)) Q E s
  | [], b, G, s, Q, h, se, hQ => by
    cases h
    rw [List.forIn_nil]
    exact WP.pure (hQ G s (.refl se.st))
  | e :: es, b, G, s, Q, h, se, hQ => by
    unfold testsD at h
    split at h
    · first | exact nsd h | exact nft h | exact ntf h | cases h
    rename_i d hd
    rw [List.forIn_cons]
    show WP B A ((do let ok ← isTrue e env (eval e env); pure (ForInStep.yield ok)) >>= _) Q E s
    split at h
    · first | exact nsd h | exact nft h | exact ntf h | cases h
    · rename_i ht
      refine WP.bind (WP.bind (okT sc Γ e d true hd ht A G s env E _ rm kn se fun G1 s1 k1 => WP.pure ?_))
      exact tests_ok okT rm kn h (se.ke k1) fun G2 s2 k2 => hQ G2 s2 (k1.trans k2)
    · rename_i ht
      cases h
      refine WP.bind (WP.bind (okT sc Γ e d false hd ht A G s env E _ rm kn se fun G1 s1 k1 => WP.pure ?_))
      show WP B A (forIn es false (testsF env)) Q E s1
      rw [tests_skip]
      exact WP.pure (hQ G1 s1 k1)

theorem compStart_ok {elt : Expr} {gens : List Comprehension} {scope : Scope} {pos : Pos} {depth : Nat} {I : Addr} {acc : Value} {env : Env} {target iter : Expr} {ifs : List Expr} {R : Result → Shared → Prop} {xs : List D} (h1 : gens[depth]? = some ⟨target, iter, ifs, 0⟩)
    (src : Src B A I G s xs) (h : CP B A (.compLoop (.ListComp elt gens scope pos) depth (.ref I) acc env) R s) : CP B A (.compStart (.ListComp elt gens scope pos) depth (.ref I) acc env) R s := by
  refine ⟨@codeAny_of_tree _ _ _ _ _ ?_⟩
  show wpAny _ _ ((compStart (.ListComp elt gens scope pos) depth (.ref I) acc env).onRaise (fun x => do noteFrame x env; standAt theWindowsPlace)) _ _ s
  refine @wpAny_notedAt _ _ _ _ _ _ _ _ _ ?_
  unfold compStart
  have hc : (clausesOf (.ListComp elt gens scope pos))[depth]? = some ⟨target, iter, ifs, 0⟩ := h1
  rw [hc]
  show wpAny _ _ (ask >>= _) _ _ s
  refine @wpAny_bind _ _ _ _ _ _ _ _ _ (@wpAny_askSetting _ _ _ _ _ (@wpAny_ite _ _ _ _ _ _ _ _ _ _ ?_))
  split
  · first
      | exact @wpAny_bind _ _ _ _ _ _ _ _ _ (@wpAny_pure _ _ _ _ _ _ _ (@wpAny_pure _ _ _ _ _ _ _ (And.intro rfl h.w)))
      | exact @wpAny_pure _ _ _ _ _ _ _ (And.intro rfl h.w)
  · have h' : wpAny B.M A (pyIter (.ref I)) (fun it' s' => codeAny B.M A (.compLoop (.ListComp elt gens scope pos) depth it' acc env) R s') (notedBy B.M A env fun x s' => R (.error x) s') s := (src.self h.w).w
    first
      | exact @wpAny_bind _ _ _ _ _ _ _ _ _ (@wpAny_rule _ _ _ _ _ _ (@wpAny_bind _ _ _ _ _ _ _ _ _ (@wpAny_standAt _ _ _ _ _ _ (@wpAny_bind _ _ _ _ _ _ _ _ _ (@wpAny_mono _ _ _ _ _ _ _ _ _ h' (fun it' s' h' => @wpAny_pure _ _ _ _ _ _ _ (And.intro rfl h')) fun _ _ x => x)))))
      | (refine @wpAny_bind _ _ _ _ _ _ _ _ _ (@wpAny_rule _ _ _ _ _ _ ?_); show wpAny _ _ (standAt iter.pos >>= _) _ _ s; exact @wpAny_bind _ _ _ _ _ _ _ _ _ (@wpAny_standAt _ _ _ _ _ _ (@wpAny_bind _ _ _ _ _ _ _ _ _ (@wpAny_mono _ _ _ _ _ _ _ _ _ h' (fun it' s' h' => @wpAny_pure _ _ _ _ _ _ _ (And.intro rfl h')) fun _ _ x => x))))

/-- what a new name does not hide -/
theorem look_put_ne {Γ0 Γ : Gm} {x : Str} {d0 : D} (hn : look Γ0 x = none) (hi : ∀ y d, look Γ0 y = some d → look Γ y = some d) : ∀ y d, look Γ0 y = some d → look (put Γ x d0) y = some d := fun y d hy => by
  rw [look_put, if_neg (fun q => by rw [q, hn] at hy; exact nsd hy)]; exact hi y d hy
theorem look_bindNs : ∀ {es : List Expr} {ds : List D} {Γ Γ' Γ0 : Gm}, bindNs sc es ds Γ = some Γ' → (∀ e ∈ es, ∀ x p, e = .Name x p → look Γ0 x = none) → (∀ y d, look Γ0 y = some d → look Γ y = some d) → ∀ y d, look Γ0 y = some d → look Γ' y = some d
  | [], _, Γ, Γ', Γ0, h, _, hi => (bindNs_nil h).2 ▸ hi
  | e :: es, _, Γ, Γ', Γ0, h, hn, hi => by
    obtain ⟨x, p, d, ds, rfl, rfl, _, h⟩ := bindNs_inv h
    exact look_bindNs h (fun e he => hn e (List.mem_cons_of_mem _ he)) (look_put_ne (hn _ List.mem_cons_self x p rfl) hi)
theorem look_bindN {t : Expr} {x : D} {Γ' : Gm} (h : bindN sc Γ t x = some Γ') : bindT sc t x Γ = some Γ' ∧ ∀ y d, look Γ y = some d → look Γ' y = some d := by
  unfold bindN at h
  split at h
  · rename_i hn
    refine ⟨h, ?_⟩
    cases bindT_inv h with
    | name hx e =>
        rw [← e]
        refine look_put_ne ?_ fun _ _ h => h
        simp only [newT] at hn
        split at hn
        · exact nft hn
        · assumption
    | tup e h' =>
        refine look_bindNs (Γ0 := Γ) h' (fun e he z q hz => ?_) (fun _ _ h => h)
        simp only [newT, List.all_eq_true] at hn
        have := hn e he
        rw [hz] at this
        simp only at this
        split at this
        · exact nft this
        · assumption
  · exact nsd h

theorem go_ok {t : Expr} {I : Addr} {v : Value} {xs : List D} {Γ Γ' : Gm} {x : D} {Q : Unit → Shared → Prop} (h : bindT sc t x Γ = some Γ') (src : Src B A I G s xs) (hQ : Q () s) : WP B A (letOwnedTupleGo t (.ref I) v) Q E s := by
  cases bindT_inv h with
  | name _ _ => exact WP.pure hQ
  | tup _ _ => exact src.go hQ

/-- one inner part of a comprehension, at its depth -/
noncomputable def InnerOk (B : Bs) (L : Nat) (rec : Ev) (sc : Kd) (elt : Expr) (env : Env) (W : List Addr) (acc : Addr) (gs : List Comprehension) (inner : Sem Unit) : Prop :=
  ∀ A G s Γ o items n ds E Q, Room L A → Kn sc env → Sees B G s env Γ → Own B G s sc env W → acc ∈ G.O → acc ∉ W → B.h0.get? acc = none → (∀ y c, env.cells.lookup y = some c → c ≠ acc ∧ c < s.heap.objs.size) → LstAt s.heap acc items n → RdL G s.heap items.toList ds → compI rec sc elt gs Γ = some o → ds.length + o.length ≤ 1000 →
    (∀ G' s' items' n', Kw B (acc :: W) G s G' s' → Sees B G' s' env Γ → Own B G' s' sc env W → LstAt s'.heap acc items' n' → RdL G' s'.heap items'.toList (ds ++ o) → Q () s') → WP B A inner Q E s

theorem lst_kw {W : List Addr} {G' : Gh} {s' : Shared} {a : Addr} {items : Array Value} {n : Nat} (h : LstAt s.heap a items n) (k : Kw B W G s G' s') (ha : a ∉ W) (ht : a ∉ B.tb) : LstAt s'.heap a items n :=
  k.kp a _ (fun m => (List.mem_append.mp m).elim ha ht) h
theorem not_tb {a : Addr} (h : B.h0.get? a = none) : a ∉ B.tb := fun m => by
  obtain ⟨vs, e⟩ := B.tab.some m; rw [h] at e; cases e


inductive LInv (B : Bs) (A : Around) (G : Gh) (s : Shared) (sc : Kd) (env : Env) (Γ : Gm) (W : List Addr) (acc I : Addr) (comp : List D → Option (List D)) (tot : List D) (k : Nat) (s1 : Shared) : Prop
  | mk (G1 : Gh) (xs1 out1 ds1 : List D) (items1 : Array Value) (n1 : Nat) (hk : xs1.length = k) (k1 : Kw B (acc :: I :: W) G s G1 s1) (se : Sees B G1 s1 env Γ) (ow : Own B G1 s1 sc env W) (hl : LstAt s1.heap acc items1 n1) (rl : RdL G1 s1.heap items1.toList ds1)
    (src : Src B A I G1 s1 xs1) (h : comp xs1 = some out1) (he : ds1 ++ out1 = tot) : LInv B A G s sc env Γ W acc I comp tot k s1
theorem loop_ok (okT : OkT B L rec) {W : List Addr} {acc : Addr} {elt : Expr} {gens gs : List Comprehension} {scope : Scope} {pos : Pos} {depth : Nat} {target iter : Expr} {ifs : List Expr} {inner : Sem Unit}
    (hin : InnerOk B L rec sc elt env W acc gs inner) {I : Addr} (hturn : compTurn (.ListComp elt gens scope pos) depth (.ref I) (.ref acc) env = turnT (.ListComp elt gens scope pos) depth (.ref I) (.ref acc) target iter ifs inner env)
    (rm : Room L A) (kn : Kn sc env) (hI0 : B.h0.get? I = none) (hIW : I ∉ W) (ha0 : B.h0.get? acc = none) (haW : acc ∉ W) (haI : acc ≠ I) (hc : ∀ y c, env.cells.lookup y = some c → c ≠ acc ∧ c ≠ I ∧ c < s.heap.objs.size)
    {R : Result → Shared → Prop} {xs : List D} {out ds : List D} {items : Array Value} {n : Nat}
    (se : Sees B G s env Γ) (ow : Own B G s sc env W) (hI : I ∈ G.O) (hacc : acc ∈ G.O) (hl : LstAt s.heap acc items n) (rl : RdL G s.heap items.toList ds) (src : Src B A I G s xs)
    (h : compL (bindN sc Γ target) (fun Γ' => testsD (rec sc Γ') ifs) (compI rec sc elt gs) xs = some out) (hlen : ds.length + out.length ≤ 1000)
    (hR : ∀ G' s' items' n', Kw B (acc :: I :: W) G s G' s' → Sees B G' s' env Γ → Own B G' s' sc env W → LstAt s'.heap acc items' n' → RdL G' s'.heap items'.toList (ds ++ out) → R (.ok .next) s') :
    CP B A (.compLoop (.ListComp elt gens scope pos) depth (.ref I) (.ref acc) env) R s := by
  have hIt := not_tb hI0
  have hat := not_tb ha0
  refine ⟨@codeAny_loop _ _ _ _ _ rfl (LInv B A G s sc env Γ W acc I (compL (bindN sc Γ target) (fun Γ' => testsD (rec sc Γ') ifs) (compI rec sc elt gs)) (ds ++ out)) (fun k s1 hInv => ?_) xs.length ⟨G, xs, out, ds, items, n, rfl, .refl se.st, se, ow, hl, rl, src, h, rfl⟩⟩
  obtain ⟨G1, xs1, out1, ds1, items1, n1, hk, k1, se1, ow1, hl1, rl1, src1, h1, he⟩ := hInv
  show wpAny _ A ((compTurn (.ListComp elt gens scope pos) depth (.ref I) (.ref acc) env).onRaise (fun x => do noteFrame x env; theTreesLotGoes x)) _ _ s1
  refine @wpAny_noted _ _ _ _ _ _ _ _ ?_
  rw [hturn]
  unfold turnT
  have hI1 : I ∈ G1.O := k1.o ▸ hI
  have hacc1 : acc ∈ G1.O := k1.o ▸ hacc
  have hlen1 : ds1.length + out1.length ≤ 1000 := by
    have := congrArg List.length he
    rw [List.length_append, List.length_append] at this; omega
  have hW2 : ∀ a ∈ [I], a ∈ G1.O := fun a ha => by rw [List.mem_singleton.mp ha]; exact hI1
  have hl2 : env.locals ∉ [I] := fun q => hIW (List.mem_singleton.mp q ▸ ow1.loc)
  have hc2 : ∀ y c, env.cells.lookup y = some c → c ∉ [I] := fun y c hy q => (hc y c hy).2.1 (List.mem_singleton.mp q)
  have h02 : ∀ a ∈ [I], B.h0.get? a = none := fun a ha => by rw [List.mem_singleton.mp ha]; exact hI0
  have w2 : ∀ a ∈ [I], a ∈ acc :: I :: W := fun a ha => by rw [List.mem_singleton.mp ha]; exact List.mem_cons_of_mem _ List.mem_cons_self
  have haI' : acc ∉ [I] := fun q => haI (List.mem_singleton.mp q)
  refine (WP.bind (WP.standAt ?_)).w
  cases xs1 with
  | nil =>
    simp only [compL] at h1; cases h1
    refine WP.bind (src1.done se1.st hIt fun s2 k2 => ?_)
    refine WP.pure (hR G1 s2 items1 n1 (k1.trans (k2.mono w2)) (se1.kw k2 hW2 h02 hl2 hc2) (ow1.kw k2 fun y c hy hc' => hc2 y c hc') (lst_kw hl1 k2 haI' hat) ?_)
    rw [List.append_nil] at he; rw [← he]; exact rl1.up (k2.up se1.st hW2)
  | cons x xs1 =>
    refine WP.bind (src1.next se1.st hI1 hIt fun v s2 k2 rv src2 => ?_)
    have se2 := se1.kw k2 hW2 h02 hl2 hc2
    have ow2 := ow1.kw k2 fun y c hy hc' => hc2 y c hc'
    have al2 := lst_kw hl1 k2 haI' hat
    have rl2 := rl1.up (k2.up se1.st hW2)
    unfold compL at h1
    split at h1
    · first | exact nsd h1 | exact nft h1 | exact ntf h1 | cases h1
    rename_i Γ1 hb
    obtain ⟨hb1, hb2⟩ := look_bindN hb
    refine WP.bind (go_ok hb1 src2 ?_)
    refine WP.bind (assign_ok rm hb1 se2 ow2 rv fun s3 st3 => ?_)
    have up3 := st3.kw.up se2.st ow2.sub
    have al3 := lst_kw al2 st3.kw haW hat
    have rl3 := rl2.up' up3
    have src3 := src2.kw se2.st st3.kw ow2.sub hIW hIt
    have k3 : Kw B (acc :: I :: W) G s G1 s3 := (k1.trans (k2.mono w2)).trans (st3.kw.mono fun a ha => List.mem_cons_of_mem _ (List.mem_cons_of_mem _ ha))
    split at h1
    · first | exact nsd h1 | exact nft h1 | exact ntf h1 | cases h1
    · rename_i ht
      refine WP.bind (tests_ok okT rm kn ht st3.se fun G4 s4 k4 => ?_)
      rw [if_neg (by simp)]
      refine WP.pure ⟨rfl, xs1.length, by rw [← hk]; exact Nat.lt_succ_self _, ⟨G4, xs1, out1, ds1, items1, n1, rfl, k3.trans (.of_ke k4), (st3.se.ke k4).less hb2, st3.ow.ke k4, lst_kw al3 k4 (fun h => nomatch h) hat, rl3.ke st3.se.st k4, ?_, h1, he⟩⟩
      exact src3.kw st3.se.st k4 (fun _ h => nomatch h) (fun h => nomatch h) hIt
    · rename_i ht
      split at h1
      · first | exact nsd h1 | exact nft h1 | exact ntf h1 | cases h1
      rename_i o ho
      split at h1
      · first | exact nsd h1 | exact nft h1 | exact ntf h1 | cases h1
      rename_i r hr
      cases h1
      refine WP.bind (tests_ok okT rm kn ht st3.se fun G4 s4 k4 => ?_)
      rw [if_pos rfl]
      have se4 := st3.se.ke k4
      have hsz4 : s.heap.objs.size ≤ s4.heap.objs.size := Nat.le_trans k3.sz k4.sz
      have hacc4 : acc ∈ G4.O := by rw [k4.o]; exact hacc1
      rw [List.length_append] at hlen1
      refine WP.bind (hin A G4 s4 Γ1 o items1 n1 ds1 _ _ rm kn se4 (st3.ow.ke k4) hacc4 haW ha0 (fun y c hy => ⟨(hc y c hy).1, Nat.lt_of_lt_of_le (hc y c hy).2.2 hsz4⟩) (lst_kw al3 k4 (fun h => nomatch h) hat) (rl3.ke st3.se.st k4) ho (by omega) fun G5 s5 items5 n5 k5 se5 ow5 al5 rl5 => ?_)
      have src4 := src3.kw st3.se.st k4 (fun _ h => nomatch h) (fun h => nomatch h) hIt
      refine WP.pure ⟨rfl, xs1.length, by rw [← hk]; exact Nat.lt_succ_self _, ⟨G5, xs1, r, ds1 ++ o, items5, n5, rfl, (k3.trans (.of_ke k4)).trans (k5.mono fun a ha => ?_), se5.less hb2, ow5, al5, rl5, ?_, hr, by rw [List.append_assoc]; exact he⟩⟩
      · rcases List.mem_cons.mp ha with q | q
        · rw [q]; exact List.mem_cons_self
        · exact List.mem_cons_of_mem _ (List.mem_cons_of_mem _ q)
      · refine src4.kw se4.st k5 (fun a ha => ?_) (fun q => (List.mem_cons.mp q).elim (Ne.symm haI) hIW) hIt
        rcases List.mem_cons.mp ha with q | q
        · rw [q]; exact hacc4
        · exact (st3.ow.ke k4).sub a q

/-- the innermost part -/
theorem emit_ok (ok : OkE B L rec) {W : List Addr} {acc : Addr} {elt : Expr} : InnerOk B L rec sc elt env W acc [] (emitT (.ref acc) elt env) := by
  intro A G s Γ o items n ds E Q rm kn se ow hacc haW ha0 hc hl rl h hlen hQ
  unfold compI at h
  split at h
  · first | exact nsd h | exact nft h | exact ntf h | cases h
  rename_i d hd
  cases h
  unfold emitT
  refine WP.bind (ok sc Γ elt d hd A G s env E _ rm kn se fun v G1 s1 k1 r1 => ?_)
  have st1 := se.st.ke k1
  have hat := not_tb ha0
  have hl1 : LstAt s1.heap acc items n := lst_kw hl k1 (fun h => nomatch h) hat
  have hacc1 : acc ∈ G1.O := by rw [k1.o]; exact hacc
  have rl1 := rl.ke se.st k1
  refine WP.bind ⟨@wpAny_list_append_plain _ _ _ _ _ _ _ _ _ ⟨n, hl1⟩ (fun h' hp hs => ?_) ?_⟩
  · obtain ⟨n', hp⟩ := hp
    have k2 : Kw B [acc] G1 s1 G1 { s1 with heap := h' } := Kw.same1 st1 (List.mem_singleton.mpr rfl) hat hs (Nat.le_refl _) hl1.nc
    have hW2 : ∀ a ∈ [acc], a ∈ G1.O := fun a ha => by rw [List.mem_singleton.mp ha]; exact hacc1
    have up2 := k2.up st1 hW2
    have hc2 : ∀ y c, env.cells.lookup y = some c → c ∉ [acc] := fun y c hy q => (hc y c hy).1 (List.mem_singleton.mp q)
    refine WP.pure (hQ G1 _ (items.push v) n' ((Kw.of_ke k1).trans (k2.mono fun a ha => by rw [List.mem_singleton.mp ha]; exact List.mem_cons_self)) ((se.ke k1).kw k2 hW2 (fun a ha => by rw [List.mem_singleton.mp ha]; exact ha0) (fun q => haW (List.mem_singleton.mp q ▸ ow.loc)) hc2)
      ((ow.ke k1).kw k2 fun y c hy hc' => hc2 y c hc') hp ?_)
    rw [Array.toList_push]
    exact (rl1.up up2).snoc (r1.up up2)
  · rw [rl.size, sizeLine_eq]; omega
end
end Mine

end
section
open PySem PySem.W PyProof.Rows
set_option Elab.async false
namespace Mine

theorem St.fresh0 {B : Bs} {G : Gh} {s : Shared} (st : St B G s) {a : Addr} (ha : s.heap.objs.size ≤ a) : B.h0.get? a = none := by
  cases e : B.h0.get? a with
  | none => rfl
  | some o =>
    have hn : a ∉ B.tb := fun m => Nat.not_lt.mpr ha (st.lt a (st.sub a m))
    exact absurd (Heap.lt_size (st.kp a o hn e)) (Nat.not_lt.mpr ha)

section
variable {B : Bs} {A : Around} {G : Gh} {s : Shared} {Γ : Gm} {sc : Kd} {env : Env} {E : Value → Shared → Prop} {L : Nat} {X : Nv} {rec : Ev}

theorem folded_of {e : Expr} (h : isSet e = false) (env : Env) (x : Value) : foldedSetIterable e env x = pure x := by
  cases e <;> first | exact ntf h | rfl

theorem more_ok (ok : OkE B L rec) (okT : OkT B L rec) {W : List Addr} {acc : Addr} {elt : Expr} {gens gs : List Comprehension} {scope : Scope} {pos : Pos} {depth : Nat} {target iter : Expr} {ifs : List Expr} {inner : Sem Unit} (h1 : gens[depth + 1]? = some ⟨target, iter, ifs, 0⟩)
    (hin : InnerOk B L rec sc elt env W acc gs inner)
    (hturn : ∀ I, compTurn (.ListComp elt gens scope pos) (depth + 1) (.ref I) (.ref acc) env = turnT (.ListComp elt gens scope pos) (depth + 1) (.ref I) (.ref acc) target iter ifs inner env) :
    InnerOk B L rec sc elt env W acc (⟨target, iter, ifs, 0⟩ :: gs) (moreT (.ListComp elt gens scope pos) depth (.ref acc) iter env) := by
  intro A G s Γ o items n ds E Q rm kn se ow hacc haW ha0 hc hl rl h hlen hQ
  unfold compI at h
  split at h
  · rename_i hset
    split at h
    · first | exact nsd h | exact nft h | exact ntf h | cases h
    rename_i d hd
    split at h
    · first | exact nsd h | exact nft h | exact ntf h | cases h
    rename_i xs hxs
    unfold moreT
    refine WP.bind (ok sc Γ iter d hd A G s env E _ rm kn se fun v G1 s1 k1 r1 => ?_)
    refine WP.bind (WP.standAt ?_)
    rw [folded_of hset]
    refine WP.bind (WP.pure ?_)
    have se1 := se.ke k1
    have st1 := se1.st
    refine WP.bind (WP.holding (iter_ok rm st1 r1 hxs fun I s2 hI1 hI2 k2 src => ?_))
    have hat := not_tb ha0
    have hacc1 : acc ∈ G1.O := by rw [k1.o]; exact hacc
    have kx : Kx B [] G1 s1 { G1 with O := I :: G1.O } s2 := Kx.own st1 k2 (fun a ha => (List.mem_cons.mp ha).elim (fun q => .inr (q ▸ ⟨hI1, hI2⟩)) .inl) fun a ha => List.mem_cons_of_mem _ ha
    have ow1 := ow.ke k1
    have se2 := se1.k0 kx
    have ow2 : Own B { G1 with O := I :: G1.O } s2 sc env W := ow1.k0 kx fun a ha => List.mem_cons_of_mem _ (ow1.sub a ha)
    have low : ∀ a ∈ G1.O, a ≠ I := fun a ha q => Nat.not_lt.mpr hI1 (q ▸ st1.lt a ha)
    have up2 := kx.up st1 (fun _ h => nomatch h)
    have hl2 : LstAt s2.heap acc items n := lst_kw (lst_kw hl k1 (fun h => nomatch h) hat) k2 (fun h => nomatch h) hat
    have rl2 := (rl.ke se.st k1).up up2
    have hz : s.heap.objs.size ≤ s1.heap.objs.size := k1.sz
    refine WP.bind ⟨@wpAny_runOwn _ _ _ _ _ _ _ _ (compStart_ok h1 src (loop_ok okT hin (hturn I) rm kn (st1.fresh0 hI1) (fun q => low I (ow1.sub I q) rfl) ha0 haW (low acc hacc1) (fun y c hy => ⟨(hc y c hy).1, fun q => ?_, ?_⟩) se2 ow2 List.mem_cons_self (List.mem_cons_of_mem _ hacc1) hl2 rl2 src h hlen
      fun G3 s3 items3 n3 k3 se3 ow3 al3 rl3 => ?_)).w ?_⟩
    · have := (hc y c hy).2
      rw [q] at this
      exact Nat.not_lt.mpr hI1 (Nat.lt_of_lt_of_le this hz)
    · exact Nat.lt_of_lt_of_le (hc y c hy).2 (Nat.le_trans hz k2.sz)
    · show WP B A (pure ()) Q E s3
      have hO3 : G3.O = I :: G1.O := k3.o
      have kx3 : Kx B (acc :: W) G1 s1 G3 s3 := (kx.mono (fun _ h => nomatch h)).trans (Kx.of_kw se2.st k3) fun a ha => by
        rcases List.mem_cons.mp ha with q | q
        · rw [q]; exact .inl List.mem_cons_self
        rcases List.mem_cons.mp q with q | q
        · rw [q]; exact .inr hI1
        · exact .inl (List.mem_cons_of_mem _ q)
      have hsub : ∀ a ∈ G1.O, a ∈ G3.O := fun a ha => by rw [hO3]; exact List.mem_cons_of_mem _ ha
      have stf : St B { G3 with O := G1.O } s3 := se3.st.free hsub st1.sub
      have upf : Up G3 s3.heap { G3 with O := G1.O } s3.heap := Up.free hsub
      exact WP.pure (hQ { G3 with O := G1.O } s3 items3 n3 ((Kw.of_ke k1).trans kx3.kw) (se3.gh stf upf) (ow3.gh fun a ha => ow1.sub a ha) al3 (rl3.up upf))
    · intro q; cases q
  · first | exact nsd h | exact nft h | exact ntf h | cases h

theorem drop_get {α : Type} {l r : List α} {x : α} {n : Nat} (h : l.drop n = x :: r) : l[n]? = some x ∧ l.drop (n + 1) = r := by
  constructor
  · have : (l.drop n)[0]? = some x := by rw [h]; rfl
    simpa using this
  · have : (l.drop n).drop 1 = r := by rw [h]; rfl
    simpa [List.drop_drop] using this

/-- all inner parts, by their depth -/
theorem inner_ok (ok : OkE B L rec) (okT : OkT B L rec) {W : List Addr} {acc : Addr} {elt : Expr} {gens : List Comprehension} {scope : Scope} {pos : Pos} : ∀ (gs : List Comprehension) (depth : Nat), gens.drop (depth + 1) = gs → (∀ g ∈ gs, g.is_async = 0) →
    ∃ inner, InnerOk B L rec sc elt env W acc gs inner ∧ ∀ target iter ifs I, gens[depth]? = some ⟨target, iter, ifs, 0⟩ →
      compTurn (.ListComp elt gens scope pos) depth (.ref I) (.ref acc) env = turnT (.ListComp elt gens scope pos) depth (.ref I) (.ref acc) target iter ifs inner env
  | [], depth, hd, _ => ⟨emitT (.ref acc) elt env, emit_ok ok, fun target iter ifs I h => compTurn_emit h (by
      have := List.drop_eq_nil_iff.mp hd
      rw [List.getElem?_eq_none_iff]; exact this)⟩
  | ⟨target', iter', ifs', as⟩ :: gs, depth, hd, ha => by
    have : as = 0 := ha ⟨target', iter', ifs', as⟩ List.mem_cons_self
    subst this
    obtain ⟨h1, h2⟩ := drop_get hd
    obtain ⟨inner, hin, ht⟩ := inner_ok ok okT (W := W) (acc := acc) (elt := elt) (scope := scope) (pos := pos) gs (depth + 1) h2 fun g hg => ha g (List.mem_cons_of_mem _ hg)
    exact ⟨moreT (.ListComp elt gens scope pos) depth (.ref acc) iter' env, more_ok ok okT h1 hin fun I => ht target' iter' ifs' I h1, fun target iter ifs I h => compTurn_more h h1⟩

theorem sync_all : ∀ {gs : List Comprehension}, allSync gs = true → ∀ g ∈ gs, g.is_async = 0
  | g :: gs, h, g', hg => by
    unfold allSync at h
    split at h
    · rename_i h1
      rcases List.mem_cons.mp hg with q | q
      · rw [q]; exact h1
      · exact sync_all h g' q
    · first | exact nsd h | exact nft h | exact ntf h | cases h

/-- the kinds under a comprehension's own table -/
theorem kind_relabel (scope : Scope) (env : Env) (x : Str) : (relabel scope env).names.lookup x = (look scope.names x).map fun k => if (k == .free && env.scope.kind == .function && env.kindOf x == some .cell) then .cell else k := by
  unfold relabel
  rw [look_eq]
  show List.lookup x (scope.names.map _) = _
  generalize scope.names = l
  induction l with
  | nil => rfl
  | cons p r ih =>
    obtain ⟨n, k⟩ := p
    rw [List.map_cons]
    by_cases hc : (k == NameKind.free && env.scope.kind == .function && env.kindOf n == some .cell) = true
    · show List.lookup x ((if (k == NameKind.free && env.scope.kind == .function && env.kindOf n == some .cell) = true then (n, NameKind.cell) else (n, k)) :: _) = _
      rw [if_pos hc, List.lookup_cons, List.lookup_cons]
      cases hx : x == n with
      | true =>
        have := beq_iff_eq.mp hx; subst this
        show some NameKind.cell = Option.map _ (some k)
        rw [Option.map_some, if_pos hc]
      | false => exact ih
    · show List.lookup x ((if (k == NameKind.free && env.scope.kind == .function && env.kindOf n == some .cell) = true then (n, NameKind.cell) else (n, k)) :: _) = _
      rw [if_neg hc, List.lookup_cons, List.lookup_cons]
      cases hx : x == n with
      | true =>
        have := beq_iff_eq.mp hx; subst this
        show some k = Option.map _ (some k)
        rw [Option.map_some, if_neg hc]
      | false => exact ih
theorem kc_relabel (scope : Scope) (env cenv : Env) (x : Str) : kc (look scope.names x) = kc (Env.kindOf { cenv with scope := relabel scope env } x) := by
  show _ = kc ((relabel scope env).names.lookup x)
  rw [kind_relabel]
  cases look scope.names x with
  | none => rfl
  | some k =>
    show kc (some k) = kc (some (if (k == NameKind.free && env.scope.kind == ScopeKind.function && env.kindOf x == some NameKind.cell) = true then NameKind.cell else k))
    split
    · rename_i h
      have : k = .free := by cases k <;> first | rfl | (simp at h)
      subst this; rfl
    · rfl
theorem look_freeG : ∀ {names : Kd} {x : Str} {d : D}, look (freeG Γ names) x = some d → (x, NameKind.free) ∈ names ∧ look Γ x = some d
  | [], _, _, h => by cases h
  | (y, k) :: r, x, d, h => by
    have rest : look (freeG Γ r) x = some d → (x, NameKind.free) ∈ (y, k) :: r ∧ look Γ x = some d := fun h => ⟨List.mem_cons_of_mem _ (look_freeG h).1, (look_freeG h).2⟩
    unfold freeG at h
    split at h
    · split at h
      · rename_i d' hd
        unfold look at h
        split at h
        · rename_i he
          cases h
          have := strEq_iff.mp he; subst this
          exact ⟨List.mem_cons_self, hd⟩
        · exact rest h
      · exact rest h
    · exact rest h
theorem celAll_mem : ∀ {names : Kd} {x : Str}, celAll sc names = true → (x, NameKind.free) ∈ names → kc (look sc x) = .cel
  | (y, k) :: r, x, h, hm => by
    unfold celAll at h
    split at h
    · split at h
      · rename_i hk
        rcases List.mem_cons.mp hm with q | q
        · cases q; exact hk
        · exact celAll_mem h q
      · first | exact nsd h | exact nft h | exact ntf h | cases h
    all_goals first
      | (rcases List.mem_cons.mp hm with q | q
         · cases q
         · exact celAll_mem h q)
      | cases h

theorem compD_inv {P : Prop} {elt : Expr} {g : Comprehension} {gs : List Comprehension} {scope : Scope} {r : D} (h : compD rec sc Γ elt (g :: gs) scope = some r)
    (k : allSync (g :: gs) = true → isSet g.iter = false → scope.kind = .function → once scope.names = true → celAll sc scope.names = true → ∀ d xs out, rec sc Γ g.iter = some d → iterD d = some xs →
      compL (bindN scope.names (freeG Γ scope.names) g.target) (fun Γ' => testsD (rec scope.names Γ') g.ifs) (compI rec scope.names elt gs) xs = some out → out.length ≤ 1000 → D.lst out = r → P) : P := by
  unfold compD at h
  dsimp only at h
  split at h
  · rename_i hsync hset hsc
    unfold scopeOk at hsc
    split at hsc
    · rename_i hkind
      split at hsc
      · rename_i honce
        split at h
        · exact nsd h
        · rename_i hd
          split at h
          · exact nsd h
          · rename_i hxs
            split at h
            · exact nsd h
            · rename_i hout
              split at h
              · rename_i hlen
                exact k hsync hset hkind honce hsc _ _ _ hd hxs hout (Nat.le_of_ble_eq_true hlen) (Option.some.inj h)
              · exact nsd h
      · exact nft hsc
    · exact nft hsc
  · exact nsd h
theorem comp_core (ok : OkE B L rec) (okT : OkT B L rec) (rm : Room L A) (kn : Kn sc env) (se : Sees B G s env Γ) {elt : Expr} {g : Comprehension} {gs : List Comprehension} {scope : Scope} {pos pos' : Pos} {out : List D} {use : Option (Value → Sem Unit)} {Q : Value → Shared → Prop}
    (h : compD rec sc Γ elt (g :: gs) scope = some (.lst out))
    (hP : ∀ G' s' acc C items n, Kx B [] G s G' s' → (∀ a ∈ G.O, a ∈ G'.O) → s.heap.objs.size ≤ acc → s.heap.objs.size ≤ C → acc ∈ G'.O → C ∈ G'.O → acc ≠ C → LstAt s'.heap acc items n → RdL G' s'.heap items.toList out → (∃ m, s'.heap.Ns C m) →
      compPost B.M A E use Q (.ref acc) C (.ok .next) s') :
    WP B A (comprehension (.ListComp elt (g :: gs) scope pos) scope env pos' (newList []) false (eval g.iter env) use) Q E s := by
  refine compD_inv h fun hsync hset hkind honce hsc d xs out' hd hxs hout hlen hr => ?_
  have hr := (D.lst.inj hr).symm
  subst hr
  obtain ⟨target, iter, ifs, as⟩ := g
  have hall := sync_all hsync
  have : as = 0 := hall _ List.mem_cons_self
  subst this
  have hcell : ∀ x, (x, NameKind.free) ∈ scope.names → ClSee B G s env Γ x := fun x hx =>
    se.cl x (by rw [← kn x]; exact celAll_mem hsc hx)
  refine ⟨@wpAny_comprehension_free _ _ _ _ _ _ _ _ _ _ _ _ _ _ _ rfl (folded_of hset env) (closureFor_ok fun x hx => let ⟨c, q, _, _, _⟩ := hcell x hx; ⟨c, q⟩) hkind (fun x hx hl => ?_) ?_⟩
  · rw [← look_eq]; exact look_of_mem honce (hl ▸ hx)
  refine (ok sc Γ iter d hd A G s env E _ rm kn se fun v G1 s1 k1 r1 => ?_).w
  have se1 := se.ke k1
  have st1 := se1.st
  refine (iter_ok rm st1 r1 hxs fun I s2 hI1 hI2 k2 src => ?_).w
  have st2 := st1.ke k2
  refine wpAny_newObj_type ?_
  have ko : Ke B G1 s2 G1 { s2 with heap := s2.heap.push { cls := .type "list", dict := none, data := .seq ([] : List Value).toArray } } := Ke.push st2 _ (Nat.le_refl _)
  have hl3 : LstAt (s2.heap.push { cls := .type "list", dict := none, data := .seq ([] : List Value).toArray }) s2.heap.objs.size #[] 0 := Heap.get?_push_size _ rfl
  have hsz3 : (s2.heap.push { cls := .type "list", dict := none, data := .seq ([] : List Value).toArray }).objs.size = s2.heap.objs.size + 1 := Heap.size_push ..
  generalize hs3 : ({ s2 with heap := s2.heap.push { cls := .type "list", dict := none, data := .seq ([] : List Value).toArray } } : Shared) = s3 at ko
  have hl3 : LstAt s3.heap s2.heap.objs.size #[] 0 := by rw [← hs3]; exact hl3
  have hsz3 : s3.heap.objs.size = s2.heap.objs.size + 1 := by rw [← hs3]; exact hsz3
  generalize hacc : s2.heap.objs.size = acc at hl3 hsz3
  have k3 : Ke B G1 s1 G1 s3 := k2.trans ko
  have hIacc : I < acc := by rw [← hacc]; exact hI2
  have hz1 : s.heap.objs.size ≤ s1.heap.objs.size := k1.sz
  have kx3 : Kx B [] G1 s1 { G1 with O := acc :: I :: G1.O } s3 := Kx.own st1 k3 (fun a ha => by
    rcases List.mem_cons.mp ha with q | q
    · subst q; exact .inr ⟨Nat.le_trans hI1 (Nat.le_of_lt hIacc), by rw [hsz3]; exact Nat.lt_succ_self _⟩
    rcases List.mem_cons.mp q with q | q
    · subst q; exact .inr ⟨hI1, by rw [hsz3]; exact Nat.lt_succ_of_lt hIacc⟩
    · exact .inl q) fun a ha => List.mem_cons_of_mem _ (List.mem_cons_of_mem _ ha)
  have st3 := kx3.st st1 (fun _ h => nomatch h)
  have up3 := kx3.up st1 (fun _ h => nomatch h)
  have clo : Clo B { G1 with O := acc :: I :: G1.O } s3 scope.names (closOf env.cells scope.names []) (freeG Γ scope.names) := by
    have cl1 : ∀ x, (x, NameKind.free) ∈ scope.names → ClSee B G1 s1 env Γ x := fun x hx =>
      se1.cl x (by rw [← kn x]; exact celAll_mem hsc hx)
    refine ⟨fun x c hx => ?_, fun x c hx => ?_, fun x hx => ?_, fun x d hx => (look_freeG hx).1⟩
    · obtain ⟨h1, rfl⟩ := closOf_mem hx
      obtain ⟨c', h2, _, h3, _⟩ := cl1 x h1
      rw [h2]; exact Nat.lt_of_lt_of_le h3 k3.sz
    · obtain ⟨h1, rfl⟩ := closOf_mem (mem_of_lookup hx)
      obtain ⟨c', h2, h3, _⟩ := cl1 x h1
      rw [h2]; exact h3
    · obtain ⟨c', h2, _, _, h3⟩ := cl1 x hx
      refine ⟨c', by rw [closOf_some hx, h2]; rfl, fun d hxd => ?_⟩
      obtain ⟨v, hv, rv⟩ := h3 d (look_freeG hxd).2
      exact ⟨v, k3.kp.cell (fun q => by
        have : c' ∈ B.tb := by simpa using q
        obtain ⟨vs, e⟩ := st1.tg.some this
        obtain ⟨o, e2, e3⟩ := hv
        rw [e] at e2; cases e2; cases e3) hv, rv.up up3⟩
  rw [se.glob]
  refine (enter_ok (Γ := freeG Γ scope.names) (binds := []) (ds := []) (around := some env) hkind honce st3 clo (fun _ h => nomatch h) .nil se.blt fun cenv G4 s4 hcenv kx4 hG4 se4 ow4 hW4 => ?_).w
  have hcells : cenv.cells = cellsFrom (s3.heap.objs.size + 1) scope.names [] ++ closOf env.cells scope.names [] := by rw [hcenv, newEnv_cells, cellsFrom_acc]
  have hlocals : cenv.locals = s3.heap.objs.size := by rw [hcenv, newEnv_locals]
  have hscope : cenv.scope = scope := by rw [hcenv, newEnv_scope]
  have hkindOf : ∀ x, cenv.kindOf x = look scope.names x := fun x => by unfold Env.kindOf; rw [hscope, look_eq]
  clear hcenv
  generalize hcv : ({ cenv with scope := relabel scope env } : Env) = cv
  have hk4 : ∀ x, cv.kindOf x = (look scope.names x).map fun k => if (k == .free && env.scope.kind == .function && env.kindOf x == some .cell) then .cell else k := fun x => by
    rw [← hcv]; exact kind_relabel scope env x
  have kn4 : Kn scope.names cv := fun x => by rw [← hcv]; exact kc_relabel scope env cenv x
  have se5 : Sees B G4 s4 cv (freeG Γ scope.names) := by
    refine ⟨se4.st, by rw [← hcv]; exact hkind, by rw [← hcv]; exact se4.glob, by rw [← hcv]; exact se4.blt, by rw [← hcv]; exact se4.lo, ?_, fun x hx => ?_⟩
    · obtain ⟨m, hm, hd⟩ := se4.ns
      refine ⟨m, by rw [← hcv]; exact hm, fun x d hx hl => ?_⟩
      exact absurd hl (by
        rw [hk4, look_of_mem honce (look_freeG hx).1]
        simp only [Option.map_some]
        split <;> simp)
    · rw [← kn4 x, ← hkindOf x] at hx
      obtain ⟨c, h1, h2, h3, h4⟩ := se4.cl x hx
      exact ⟨c, by rw [← hcv]; exact h1, h2, h3, h4⟩
  have ow5 : Own B G4 s4 scope.names cv (newW s3 scope.names) := by
    refine ⟨ow4.sub, ow4.new, by rw [← hcv]; exact ow4.loc, fun x hx => by rw [hk4, hx]; rfl, fun x hx => ⟨by rw [hk4, hx]; rfl, ?_⟩⟩
    obtain ⟨_, c, v', h1, h2⟩ := ow4.cel x hx
    exact ⟨c, v', by rw [← hcv]; exact h1, by rw [← hcv]; exact h2⟩
  have hcvc : cv.cells = cenv.cells := by rw [← hcv]
  have hcvl : cv.locals = cenv.locals := by rw [← hcv]
  obtain ⟨inner, hin, hturn⟩ := inner_ok (sc := scope.names) (env := cv) ok okT (W := newW s3 scope.names) (acc := acc) (elt := elt) (gens := ⟨target, iter, ifs, 0⟩ :: gs) (scope := scope) (pos := pos) gs 0 rfl fun g hg => hall g (List.mem_cons_of_mem _ hg)
  have hWge : ∀ a ∈ newW s3 scope.names, s3.heap.objs.size ≤ a := fun a ha => (hW4 a ha).1
  have hIs3 : I < s3.heap.objs.size := by rw [hsz3]; exact Nat.lt_succ_of_lt hIacc
  have hAs3 : acc < s3.heap.objs.size := by rw [hsz3]; exact Nat.lt_succ_self _
  have hI4 : I ∈ G4.O := by rw [hG4]; exact List.mem_append_right _ (List.mem_cons_of_mem _ List.mem_cons_self)
  have hA4 : acc ∈ G4.O := by rw [hG4]; exact List.mem_append_right _ List.mem_cons_self
  have srcI : Src B A I { G1 with O := acc :: I :: G1.O } s3 xs := by
    have stI : St B { G1 with O := I :: G1.O } s2 := (Kx.own (W := []) st1 k2 (fun a ha => (List.mem_cons.mp ha).elim (fun q => .inr (q ▸ ⟨hI1, hI2⟩)) .inl) fun a ha => List.mem_cons_of_mem _ ha).st st1 (fun _ h => nomatch h)
    have kI : Ke B { G1 with O := I :: G1.O } s2 { G1 with O := I :: G1.O } s3 := ⟨ko.same, ko.kp, ko.tg, ko.cd, ko.sz, rfl, ko.n, ko.τ, ko.tk⟩
    exact src.kx (Kx.own (W := []) stI kI (O' := acc :: I :: G1.O) (fun a ha => (List.mem_cons.mp ha).elim (fun q => .inr (q ▸ ⟨Nat.le_of_eq hacc, hAs3⟩)) .inl) fun a ha => List.mem_cons_of_mem _ ha) stI (fun _ h => nomatch h) (fun h => nomatch h) (not_tb (st1.fresh0 hI1))
  have src4 := srcI.kx kx4 st3 (fun _ h => nomatch h) (fun h => nomatch h) (not_tb (st1.fresh0 hI1))
  have ha0 : B.h0.get? acc = none := st1.fresh0 (Nat.le_trans hI1 (Nat.le_of_lt hIacc))
  have hl4 : LstAt s4.heap acc #[] 0 := kx4.kw.kp acc _ (fun q => not_tb ha0 (by simpa using q)) hl3
  refine (compStart_ok rfl src4 (loop_ok okT hin (hturn target iter ifs I rfl) rm kn4 (st1.fresh0 hI1) (fun q => Nat.not_lt.mpr (hWge I q) hIs3) ha0 (fun q => Nat.not_lt.mpr (hWge acc q) hAs3) (Nat.ne_of_gt hIacc) (fun y c hy => ?_) se5 ow5 hI4 hA4 hl4 .nil src4 hout (by show 0 + out.length ≤ 1000; omega)
    fun G6 s6 items6 n6 k6 se6 ow6 al6 rl6 => ?_)).w
  · rw [hcvc, hcells, List.lookup_append] at hy
    cases e : (cellsFrom (s3.heap.objs.size + 1) scope.names []).lookup y with
    | some c' =>
      rw [e] at hy
      have : c' = c := by simpa using hy
      subst this
      have hm : c' ∈ newW s3 scope.names := List.mem_cons_of_mem _ (lookup_mem e)
      have hge := hWge c' hm
      exact ⟨fun q => Nat.not_lt.mpr hge (q ▸ hAs3), fun q => Nat.not_lt.mpr hge (q ▸ hIs3), (hW4 c' hm).2⟩
    | none =>
      rw [e] at hy
      have hy' : (closOf env.cells scope.names []).lookup y = some c := by simpa using hy
      obtain ⟨h1, h2⟩ := closOf_mem (mem_of_lookup hy')
      obtain ⟨c', h3, _, h4, _⟩ := hcell y h1
      have : c = c' := by rw [h2, h3]; rfl
      subst this
      have hlt : c < s1.heap.objs.size := Nat.lt_of_lt_of_le h4 hz1
      exact ⟨fun q => Nat.not_lt.mpr (Nat.le_trans hI1 (Nat.le_of_lt hIacc)) (q ▸ hlt), fun q => Nat.not_lt.mpr hI1 (q ▸ hlt), Nat.lt_of_lt_of_le hlt (Nat.le_trans k3.sz kx4.sz)⟩
  · have hO6 : G6.O = newW s3 scope.names ++ acc :: I :: G1.O := by rw [k6.o, hG4]
    have hzs : s.heap.objs.size ≤ s3.heap.objs.size := Nat.le_trans hz1 k3.sz
    have kxa : Kx B [] G s G6 s6 := by
      have a1 : Kx B [] G s G4 s4 := ((Kx.of_ke se.st k1).trans kx3 (fun _ h => nomatch h)).trans kx4 (fun _ h => nomatch h)
      refine a1.trans (Kx.of_kw se5.st k6) fun a ha => .inr ?_
      rcases List.mem_cons.mp ha with q | q
      · rw [q]; exact Nat.le_trans hz1 (Nat.le_trans hI1 (Nat.le_of_lt hIacc))
      rcases List.mem_cons.mp q with q | q
      · rw [q]; exact Nat.le_trans hz1 hI1
      · exact Nat.le_trans hzs (hWge a q)
    refine hP G6 s6 acc cenv.locals items6 n6 kxa (fun a ha => ?_) (Nat.le_trans hz1 (Nat.le_trans hI1 (Nat.le_of_lt hIacc))) ?_ ?_ ?_ ?_ al6 (by simpa using rl6) ?_
    · rw [hO6, k1.o]; exact List.mem_append_right _ (List.mem_cons_of_mem _ (List.mem_cons_of_mem _ ha))
    · rw [hlocals]; exact hzs
    · rw [hO6]; exact List.mem_append_right _ List.mem_cons_self
    · rw [hO6, hlocals]; exact List.mem_append_left _ List.mem_cons_self
    · rw [hlocals]; exact Nat.ne_of_lt hAs3
    · obtain ⟨m, hm, _⟩ := se6.ns
      exact ⟨m, by rw [← hcvl]; exact hm⟩
end
end Mine

end
section
open PySem PySem.W PyProof.Rows
set_option Elab.async false
namespace Mine

section
variable {B : Bs} {A : Around} {G : Gh} {s : Shared} {Γ : Gm} {sc : Kd} {env : Env} {E : Value → Shared → Prop} {L : Nat} {X : Nv} {rec : Ev}

theorem compD_lst {elt : Expr} {gens : List Comprehension} {scope : Scope} {d : D} (h : compD rec sc Γ elt gens scope = some d) : ∃ g gs out, gens = g :: gs ∧ d = .lst out ∧ g.is_async = 0 := by
  cases gens with
  | nil => exact nsd h
  | cons g gs => exact compD_inv h fun hs _ _ _ _ _ _ out _ _ _ _ hr => ⟨g, gs, out, rfl, hr.symm, sync_all hs g List.mem_cons_self⟩

theorem comp_ok (ok : OkE B L rec) (okT : OkT B L rec) (rm : Room L A) (kn : Kn sc env) (se : Sees B G s env Γ) {elt : Expr} {gens : List Comprehension} {scope : Scope} {pos : Pos} {d : D} {Q : Value → Shared → Prop}
    (h : compD rec sc Γ elt gens scope = some d) (hQ : Post B G s d Q) : WP B A (eval (.ListComp elt gens scope pos) env) Q E s := by
  obtain ⟨g, gs, out, rfl, rfl, has⟩ := compD_lst h
  rw [eval_ListComp]
  have hfa : firstAsync (g :: gs) = false := by
    obtain ⟨a, b, c, e⟩ := g
    have : e = 0 := has
    subst this; rfl
  rw [hfa]
  obtain ⟨target, iter, ifs, as⟩ := g
  refine comp_core (g := ⟨target, iter, ifs, as⟩) (use := none) ok okT rm kn se h fun G1 s1 acc C items n kx hsub hacc hC haO hCO hne hl rl hns => ?_
  obtain ⟨m, hm⟩ := hns
  refine ⟨m, hm, fun h' hs' => ?_⟩
  have st1 := kx.st se.st (fun _ h => nomatch h)
  have hCt : C ∉ B.tb := not_tb (se.st.fresh0 hC)
  have k2 : Kw B [C] G1 s1 G1 { s1 with heap := h' } := Kw.same1 st1 (List.mem_singleton.mpr rfl) hCt hs' (Nat.le_refl _) (.ns hm)
  have kx2 : Kx B [] G s G1 { s1 with heap := h' } := kx.trans (Kx.of_kw st1 k2) fun a ha => .inr (by rw [List.mem_singleton.mp ha]; exact hC)
  have up2 := k2.up st1 (fun a ha => by rw [List.mem_singleton.mp ha]; exact hCO)
  refine hQ (.ref acc) { G1 with O := G.O } _ kx2.kw (.lst (n := n) (se.st.fresh hacc) ?_ ((rl.up up2).up (Up.free hsub)))
  exact lst_kw hl k2 (fun q => hne (List.mem_singleton.mp q)) (not_tb (se.st.fresh0 hacc))

theorem evE1_ok (nv : NvOk B L X) (ok : OkE B L rec) (okT : OkT B L rec) : OkE B L (evE1 X rec) := by
  intro sc Γ e d h A G s env E Q rm kn se hQ
  cases e <;> first | exact nsd h | (unfold evE1 at h; dsimp only at h)
  case BoolOp op es pos => exact boolD_ok ok rm kn h se hQ
  case BinOp l op r pos =>
    split at h
    · first | exact nsd h | exact nft h | exact ntf h | cases h
    rename_i a ha
    split at h
    · first | exact nsd h | exact nft h | exact ntf h | cases h
    rename_i b hb
    refine ⟨@wpAny_BinOp _ _ _ _ _ _ _ _ _ _ (ok sc Γ l a ha A G s env E _ rm kn se fun v G1 s1 k1 r1 => (ok sc Γ r b hb A G1 s1 env E _ rm kn (se.ke k1) fun w G2 s2 k2 r2 => ?_).w).w⟩
    exact (binop_ok ((se.st.ke k1).ke k2) (r1.ke (se.st.ke k1) k2) r2 h (hQ.after (k1.trans k2))).w
  case UnaryOp op x pos =>
    split at h
    · first | exact nsd h | exact nft h | exact ntf h | cases h
    rename_i a ha
    refine ⟨@wpAny_UnaryOp _ _ _ _ _ _ _ _ _ (ok sc Γ x a ha A G s env E _ rm kn se fun v G1 s1 k1 r1 => ?_).w⟩
    exact (unop_ok (se.st.ke k1) r1 h (hQ.after k1)).w
  case IfExp t b o pos =>
    split at h
    · first | exact nsd h | exact nft h | exact ntf h | cases h
    rename_i c hc
    split at h
    · first | exact nsd h | exact nft h | exact ntf h | cases h
    · rename_i ht
      refine ⟨@wpAny_IfExp _ _ _ _ _ _ _ _ _ _ (okT sc Γ t c true hc ht A G s env E _ rm kn se fun G1 s1 k1 => ?_).w⟩
      exact (ok sc Γ b d h A G1 s1 env E Q rm kn (se.ke k1) (hQ.after k1)).w
    · rename_i ht
      refine ⟨@wpAny_IfExp _ _ _ _ _ _ _ _ _ _ (okT sc Γ t c false hc ht A G s env E _ rm kn se fun G1 s1 k1 => ?_).w⟩
      exact (ok sc Γ o d h A G1 s1 env E Q rm kn (se.ke k1) (hQ.after k1)).w
  case ListComp elt gens scope pos => exact comp_ok ok okT rm kn se h hQ
  case Compare l ops rs pos =>
    split at h
    · first | exact nsd h | exact nft h | exact ntf h | cases h
    rename_i hm
    split at h
    · first | exact nsd h | exact nft h | exact ntf h | cases h
    rename_i a ha
    exact (cmp_ok ok rm kn se hm ha h).1 hQ
  case Call f args kws pos =>
    cases kws with
    | nil => exact callD_ok nv ok rm kn se h hQ
    | cons _ _ => exact callK_ok nv ok rm kn se h hQ
  case Attribute o m pos =>
    split at h
    · first | exact nsd h | exact nft h | exact ntf h | cases h
    rename_i hn
    split at h
    · first | exact nsd h | exact nft h | exact ntf h | cases h
    rename_i d' hd
    cases o <;> first | exact nft hn | skip
    exact ⟨@Attribute_name _ _ _ _ _ _ _ _ _ _ (ok sc Γ _ d' hd A G s env E _ rm kn se fun v G1 s1 k1 r1 => (nv.a m d' d h A G1 s1 E Q v true (se.st.ke k1) r1 (hQ.after k1)).w).w⟩
  case Constant c k pos => exact const_ok se.st h hQ
  case Subscript v i pos => exact subD_ok ok rm kn se h hQ
  case Name x pos => exact name_ok nv kn se h hQ
  case List es pos =>
    split at h
    · first | exact nsd h | exact nft h | exact ntf h | cases h
    rename_i ds hds
    split at h
    · rename_i hl
      cases h
      have hl := Nat.le_of_ble_eq_true hl
      refine ⟨@wpAny_List_spliced _ _ _ _ _ _ _ _ _ (each_ok ok rm kn hds se fun vs G1 s1 k1 r1 => ⟨?_, ?_⟩).w⟩
      · rw [r1.length, sizeLine_eq]; omega
      · exact Post.newL (hQ.after k1) (se.st.ke k1) (by simpa using r1)
    · first | exact nsd h | exact nft h | exact ntf h | cases h
  case Tuple es k pos =>
    split at h
    · first | exact nsd h | exact nft h | exact ntf h | cases h
    rename_i ds hds
    split at h
    · rename_i hl
      cases h
      have hl := Nat.le_of_ble_eq_true hl
      refine ⟨@wpAny_Tuple_spliced _ _ _ _ _ _ _ _ _ _ (each_ok ok rm kn hds se fun vs G1 s1 k1 r1 => ⟨?_, ?_⟩).w⟩
      · rw [r1.length, sizeLine_eq]; omega
      · exact Post.newT (hQ.after k1) (se.st.ke k1) (by simpa using r1)
    · first | exact nsd h | exact nft h | exact ntf h | cases h

theorem plain_test (okE1 : OkE B L (evE1 X rec)) {e : Expr} {d : D} {b : Bool} {Q : Bool → Shared → Prop} (h : evE1 X rec sc Γ e = some d) (hb : truth d = some b) (rm : Room L A) (kn : Kn sc env) (se : Sees B G s env Γ) (hQ : ∀ G' s', Ke B G s G' s' → Q b s')
    (he : isTrue e env (eval e env) = (do let v ← eval e env; standAt e.pos; holding [v] (truthy v))) : WP B A (isTrue e env (eval e env)) Q E s := by
  rw [he]
  refine WP.bind (okE1 sc Γ e d h A G s env E _ rm kn se fun v G1 s1 k1 r1 => WP.bind (WP.standAt (WP.holding ?_)))
  exact truthy_ok (se.st.ke k1) r1 hb fun G2 s2 k2 => hQ G2 s2 (k1.trans k2)

theorem evE1_okT (nv : NvOk B L X) (ok : OkE B L rec) (okT : OkT B L rec) : OkT B L (evE1 X rec) := by
  intro sc Γ e d b h hb A G s env E Q rm kn se hQ
  have ok1 := evE1_ok nv ok okT
  cases e
  case BoolOp op es pos => exact boolT_ok okT rm kn h hb se hQ
  case IfExp t bo o pos =>
    unfold evE1 at h; dsimp only at h
    split at h
    · first | exact nsd h | exact nft h | exact ntf h | cases h
    rename_i c hc
    split at h
    · first | exact nsd h | exact nft h | exact ntf h | cases h
    · rename_i ht
      refine ⟨@PyProof.Rows.isTrue_IfExp _ _ _ _ _ _ _ _ _ _ _ (okT sc Γ t c true hc ht A G s env E _ rm kn se fun G1 s1 k1 => ?_).w⟩
      exact (okT sc Γ bo d b h hb A G1 s1 env E Q rm kn (se.ke k1) fun G2 s2 k2 => hQ G2 s2 (k1.trans k2)).w
    · rename_i ht
      refine ⟨@PyProof.Rows.isTrue_IfExp _ _ _ _ _ _ _ _ _ _ _ (okT sc Γ t c false hc ht A G s env E _ rm kn se fun G1 s1 k1 => ?_).w⟩
      exact (okT sc Γ o d b h hb A G1 s1 env E Q rm kn (se.ke k1) fun G2 s2 k2 => hQ G2 s2 (k1.trans k2)).w
  case Compare l ops rs pos =>
    unfold evE1 at h; dsimp only at h
    split at h
    · first | exact nsd h | exact nft h | exact ntf h | cases h
    rename_i hm
    split at h
    · first | exact nsd h | exact nft h | exact ntf h | cases h
    rename_i a ha
    exact (cmp_ok ok rm kn se hm ha h).2 hb hQ
  case UnaryOp op x pos =>
    cases op
    case Not =>
      unfold evE1 at h; dsimp only at h
      split at h
      · first | exact nsd h | exact nft h | exact ntf h | cases h
      rename_i a ha
      unfold unop at h; dsimp only at h
      split at h
      · rename_i t ht
        cases h; cases hb
        exact ⟨@PyProof.Rows.isTrue_not _ _ _ _ _ _ _ _ _ (okT sc Γ x a t ha ht A G s env E _ rm kn se fun G1 s1 k1 => hQ G1 s1 k1).w⟩
      · first | exact nsd h | exact nft h | exact ntf h | cases h
    all_goals exact plain_test ok1 h hb rm kn se hQ rfl
  all_goals exact plain_test ok1 h hb rm kn se hQ rfl

theorem evE_ok (nv : NvOk B L X) : ∀ n, OkE B L (evE X n) ∧ OkT B L (evE X n)
  | 0 => ⟨fun _ _ _ _ h => (nomatch h), fun _ _ _ _ _ h => (nomatch h)⟩
  | n + 1 => by
    obtain ⟨h1, h2⟩ := evE_ok nv n
    rw [evE_succ]
    exact ⟨evE1_ok nv h1 h2, evE1_okT nv h1 h2⟩
end
end Mine

end
section
open PySem PySem.W PyProof.Rows
set_option Elab.async false
namespace Mine

/-- things that a frame owns and may turn: a list; a list of lists; a table of headers -/
inductive OD where
  | lst (ds : List D)
  | grid (rows : List (List D))
  | hdr (C : Addr) (xs : List D)
noncomputable abbrev Om := List (Str × OD)
noncomputable def frzD : OD → D
  | .lst ds => .lst ds
  | .grid rows => .lst (rows.map D.lst)
  | .hdr C xs => .hdr C xs
noncomputable def del {α : Type} : List (Str × α) → Str → List (Str × α)
  | [], _ => []
  | (y, o) :: r, x => match strEq x y with
    | true => del r x
    | false => (y, o) :: del r x
noncomputable def putA {α : Type} : List (Str × α) → Str → α → List (Str × α)
  | [], x, d => [(x, d)]
  | (y, e) :: r, x, d => match strEq x y with
    | true => (y, d) :: r
    | false => (y, e) :: putA r x d
noncomputable def frz (Γ : Gm) : Om → Gm
  | [] => Γ
  | (x, o) :: r => put (frz Γ r) x (frzD o)
inductive Fl where
  | nxt | brk | cnt
  | ret (d : D)
noncomputable abbrev Rs := Fl × Gm × Om
structure Hk where
  S : Kd → Gm → Om → Stmt → Option Rs

theorem look_del {α : Type} : ∀ (l : List (Str × α)) (x y : Str), look (del l x) y = if y = x then none else look l y
  | [], x, y => by simp [del, look]
  | (z, o) :: r, x, y => by
    unfold del
    cases h : strEq x z with
    | true =>
      have hz := strEq_iff.mp h; subst hz
      simp only
      rw [look_del r x y]
      by_cases hy : y = x
      · simp [hy]
      · rw [if_neg hy, if_neg hy]
        have : strEq y x = false := by cases q : strEq y x with | true => exact absurd (strEq_iff.mp q) hy | false => rfl
        simp only [look, this]
    | false =>
      simp only [look]
      cases h2 : strEq y z with
      | true =>
        have hz := strEq_iff.mp h2; subst hz
        have : y ≠ x := fun e => by rw [e, strEq_iff.mpr rfl] at h; cases h
        simp [this]
      | false => simp only [look_del r x y]
theorem look_putA {α : Type} : ∀ (Γ : List (Str × α)) (x y : Str) (d : α), look (putA Γ x d) y = if y = x then some d else look Γ y
  | [], x, y, d => by
    simp only [putA, look]
    cases h : strEq y x with
    | true => have := strEq_iff.mp h; simp [this]
    | false => have : y ≠ x := fun e => by rw [strEq_iff.mpr e] at h; cases h
               simp [this]
  | (z, e) :: r, x, y, d => by
    simp only [putA]
    cases h : strEq x z with
    | true =>
      have hz := strEq_iff.mp h; subst hz
      simp only [look]
      cases h2 : strEq y x with
      | true => simp [strEq_iff.mp h2]
      | false => have : y ≠ x := fun e => by rw [strEq_iff.mpr e] at h2; cases h2
                 simp [this]
    | false =>
      have hz : x ≠ z := fun e => by rw [strEq_iff.mpr e] at h; cases h
      simp only [look]
      cases h2 : strEq y z with
      | true => have := strEq_iff.mp h2; subst this; simp [Ne.symm hz]
      | false => simp only [look_putA r x y d]
theorem look_frz : ∀ (Ω : Om) (Γ : Gm) (x : Str), look (frz Γ Ω) x = match look Ω x with | some o => some (frzD o) | none => look Γ x
  | [], Γ, x => rfl
  | (y, o) :: r, Γ, x => by
    simp only [frz, look_put, look]
    cases h : strEq x y with
    | true => simp [strEq_iff.mp h]
    | false =>
      have : x ≠ y := fun e => by rw [strEq_iff.mpr e] at h; cases h
      rw [if_neg this, look_frz r Γ x]

/-- what is owned lies so -/
inductive RowsAt (G : Gh) (h : Heap) : List Addr → List (List D) → Prop
  | nil : RowsAt G h [] []
  | cons {a : Addr} {items : Array Value} {n : Nat} {ds : List D} {as : List Addr} {rows : List (List D)} : LstAt h a items n → RdL G h items.toList ds → RowsAt G h as rows → RowsAt G h (a :: as) (ds :: rows)
inductive OdAt (G : Gh) (h : Heap) : Addr → List Addr → OD → Prop
  | lst {a : Addr} {items : Array Value} {n : Nat} {ds : List D} : LstAt h a items n → RdL G h items.toList ds → OdAt G h a [a] (.lst ds)
  | grid {a : Addr} {as : List Addr} {n : Nat} {rows : List (List D)} : LstAt h a (as.map Value.ref).toArray n → RowsAt G h as rows → OdAt G h a (a :: as) (.grid rows)
  | hdr {a dx l C : Addr} {items : Array Value} {n : Nat} {ds : List D} : h.get? a = some ({ cls := .ref C, dict := some dx, data := .plain } : Obj) → dx ≠ a →
      h.Ns1 dx (fun x => if x = ("_headers" : Str) then some (.ref l) else none) → LstAt h l items n → RdL G h items.toList ds → OdAt G h a [a, dx, l] (.hdr C ds)

noncomputable def OdInv (G : Gh) (h : Heap) (a : Addr) (as : List Addr) : OD → Prop
  | .lst ds => ∃ items n, as = [a] ∧ LstAt h a items n ∧ RdL G h items.toList ds
  | _ => True
theorem OdAt.inv {G : Gh} {h : Heap} {a : Addr} {as : List Addr} {o : OD} (x : OdAt G h a as o) : OdInv G h a as o := by
  cases x with
  | lst l r => exact ⟨_, _, rfl, l, r⟩
  | grid => trivial
  | hdr => trivial
theorem OdAt.lstI {G : Gh} {h : Heap} {a : Addr} {as : List Addr} {ds : List D} (x : OdAt G h a as (.lst ds)) : ∃ items n, as = [a] ∧ LstAt h a items n ∧ RdL G h items.toList ds := x.inv
/-- a name that stands for a thing at a is known better -/
theorem Sees.know {B : Bs} {G : Gh} {s : Shared} {env : Env} {Γ : Gm} {x : Str} {a : Addr} {d : D} (se : Sees B G s env Γ) (hx : look Γ x = some (.ref a)) (r : Rd G s.heap (.ref a) d) : Sees B G s env (put Γ x d) := by
  have key : ∀ y e, look (put Γ x d) y = some e → ∃ d', look Γ y = some d' ∧ ∀ v, Rd G s.heap v d' → Rd G s.heap v e := fun y e hy => by
    rw [look_put] at hy
    by_cases hyx : y = x
    · rw [if_pos hyx] at hy
      refine ⟨_, hyx ▸ hx, fun v q => ?_⟩
      rw [show v = .ref a from q.refK rfl, ← Option.some.inj hy]; exact r
    · rw [if_neg hyx] at hy
      exact ⟨e, hy, fun _ q => q⟩
  refine ⟨se.st, se.kind, se.glob, se.blt, se.lo, ?_, fun y hy => ?_⟩
  · obtain ⟨m, hm, hdd⟩ := se.ns
    refine ⟨m, hm, fun y e hy hk => ?_⟩
    obtain ⟨d', h1, h2⟩ := key y e hy
    obtain ⟨v, hv, q⟩ := hdd y d' h1 hk
    exact ⟨v, hv, h2 v q⟩
  · obtain ⟨c, hc, hct, hcz, hdd⟩ := se.cl y hy
    refine ⟨c, hc, hct, hcz, fun e hye => ?_⟩
    obtain ⟨d', h1, h2⟩ := key y e hye
    obtain ⟨v, hv, q⟩ := hdd d' h1
    exact ⟨v, hv, h2 v q⟩
theorem Rd.refI {G : Gh} {h : Heap} {v : Value} {a : Addr} (r : Rd G h v (.ref a)) : v = .ref a := r.refK rfl
theorem RowsAt.up {G G' : Gh} {h h' : Heap} (u : Up G h G' h') : ∀ {as : List Addr} {rows : List (List D)}, RowsAt G h as rows → (∀ a ∈ as, ∀ o, h.get? a = some o → h'.get? a = some o) → RowsAt G' h' as rows := fun x => by
  induction x with
  | nil => exact fun _ => .nil
  | cons l r t ih => exact fun k => .cons (k _ List.mem_cons_self _ l) (r.up u) (ih fun a ha => k a (List.mem_cons_of_mem _ ha))
theorem OdAt.up {G G' : Gh} {h h' : Heap} (u : Up G h G' h') {a : Addr} {as : List Addr} {o : OD} (x : OdAt G h a as o) (k : ∀ a ∈ as, ∀ o, h.get? a = some o → h'.get? a = some o) : OdAt G' h' a as o := by
  cases x with
  | lst l r => exact .lst (k _ List.mem_cons_self _ l) (r.up u)
  | grid l r => exact .grid (k _ List.mem_cons_self _ l) (r.up u fun a ha => k a (List.mem_cons_of_mem _ ha))
  | hdr e1 hne hn hl hd =>
    refine .hdr (k _ List.mem_cons_self _ e1) hne ?_ (k _ (List.mem_cons_of_mem _ (List.mem_cons_of_mem _ List.mem_cons_self)) _ hl) (hd.up u)
    obtain ⟨o, es, ep, e, q⟩ := hn
    exact ⟨o, es, ep, k _ (List.mem_cons_of_mem _ List.mem_cons_self) _ e, q⟩
theorem RowsAt.rd {G : Gh} {h : Heap} : ∀ {as : List Addr} {rows : List (List D)}, RowsAt G h as rows → (∀ a ∈ as, a ∉ G.O) → RdL G h (as.map Value.ref) (rows.map D.lst) := fun x => by
  induction x with
  | nil => exact fun _ => .nil
  | cons l r t ih => exact fun k => .cons (.lst (k _ List.mem_cons_self) l r) (ih fun a ha => k a (List.mem_cons_of_mem _ ha))
theorem OdAt.rd {G : Gh} {h : Heap} {a : Addr} {as : List Addr} {o : OD} (x : OdAt G h a as o) (k : ∀ a ∈ as, a ∉ G.O) : Rd G h (.ref a) (frzD o) := by
  cases x with
  | lst l r => exact .lst (k _ List.mem_cons_self) l r
  | grid l r => exact .lst (k _ List.mem_cons_self) l (by simpa using r.rd fun a ha => k a (List.mem_cons_of_mem _ ha))
  | hdr e1 hne hn hl hd => exact .hdr (k _ List.mem_cons_self) (k _ (List.mem_cons_of_mem _ List.mem_cons_self)) (k _ (List.mem_cons_of_mem _ (List.mem_cons_of_mem _ List.mem_cons_self))) e1 hne hn hl hd

/-- one owned thing, under its name -/
structure OwnT (B : Bs) (O0 : List Addr) (G : Gh) (s : Shared) (env : Env) (V : List Addr) (Γp : Gm) (x : Str) (a : Addr) (as : List Addr) (o : OD) : Prop where
  ref : look Γp x = some (.ref a)
  od : OdAt G s.heap a as o
  own : ∀ b ∈ as, b ∈ G.O ∧ b ∉ O0 ∧ b ∉ V ∧ (∀ y c, env.cells.lookup y = some c → c ≠ b)

inductive FmHas (B : Bs) (O0 : List Addr) (G : Gh) (s : Shared) (sc : Kd) (env : Env) (V : List Addr) (Γ : Gm) (Ω : Om) : Prop
  | mk (Γp : Gm) (α : Str → Addr) (β : Str → List Addr) (se : Sees B G s env Γp) (h1 : ∀ x d, look Γ x = some d → look Γp x = some d) (h2 : ∀ x o, look Ω x = some o → OwnT B O0 G s env V Γp x (α x) (β x) o)
    (h3 : ∀ x y o o', look Ω x = some o → look Ω y = some o' → ∀ b ∈ β x, b ∈ β y → x = y) : FmHas B O0 G s sc env V Γ Ω

/-- the frame: what its names stand for, and what it owns -/
structure Fm (B : Bs) (O0 : List Addr) (G : Gh) (s : Shared) (sc : Kd) (env : Env) (V : List Addr) (Γ : Gm) (Ω : Om) : Prop where
  vo : ∀ a ∈ V, a ∉ O0
  oo : ∀ a ∈ O0, a ∈ G.O
  tb : ∀ a ∈ B.tb, a ∈ O0
  nw : ∀ a ∈ G.O, a ∉ O0 → B.h0.get? a = none
  ow : Own B G s sc env V
  kn : Kn sc env
  cz : ∀ y c, env.cells.lookup y = some c → c < s.heap.objs.size
  has : FmHas B O0 G s sc env V Γ Ω

/-- from state to state, in a frame: what others own stands -/
noncomputable def Wn (G : Gh) (O0 : List Addr) : List Addr := G.O.filter fun a => decide (a ∉ O0)
theorem mem_Wn {G : Gh} {O0 : List Addr} {a : Addr} : a ∈ Wn G O0 ↔ a ∈ G.O ∧ a ∉ O0 := by unfold Wn; rw [List.mem_filter]; simp
structure Tr (B : Bs) (O0 : List Addr) (G : Gh) (s : Shared) (G' : Gh) (s' : Shared) : Prop where
  kx : Kx B (Wn G O0) G s G' s'

section
variable {B : Bs} {O0 : List Addr} {G G' G'' : Gh} {s s' s'' : Shared} {sc : Kd} {env : Env} {V : List Addr} {Γ : Gm} {Ω : Om}
theorem Tr.refl (st : St B G s) : Tr B O0 G s G s := ⟨.refl st⟩
theorem Tr.trans (a : Tr B O0 G s G' s') (b : Tr B O0 G' s' G'' s'') : Tr B O0 G s G'' s'' := ⟨a.kx.trans b.kx fun x hx => by
  obtain ⟨h1, h2⟩ := mem_Wn.mp hx
  exact (a.kx.o x h1).imp (fun q => mem_Wn.mpr ⟨q, h2⟩) id⟩
theorem Tr.ke (st : St B G s) (k : Ke B G s G' s') : Tr B O0 G s G' s' := ⟨.of_ke st k⟩
theorem Fm.st (f : Fm B O0 G s sc env V Γ Ω) : St B G s := by obtain ⟨_, _, _, h, _⟩ := f.has; exact h.st
theorem Fm.se (f : Fm B O0 G s sc env V Γ Ω) : Sees B G s env Γ := by obtain ⟨_, _, _, h, h2, _⟩ := f.has; exact h.less h2
theorem Fm.not_tb (f : Fm B O0 G s sc env V Γ Ω) {a : Addr} (h : a ∉ O0) : a ∉ B.tb := fun m => h (f.tb a m)

theorem Fm.ke (f : Fm B O0 G s sc env V Γ Ω) (k : Ke B G s G' s') : Fm B O0 G' s' sc env V Γ Ω := by
  obtain ⟨Γp, α, β, se, h1, h2, h3⟩ := f.has
  have up := k.up se.st
  refine ⟨f.vo, fun a ha => k.o ▸ f.oo a ha, f.tb, fun a ha => f.nw a (k.o ▸ ha), f.ow.ke k, f.kn, fun y c hy => Nat.lt_of_lt_of_le (f.cz y c hy) k.sz, Γp, α, β, se.ke k, h1, fun x o hx => ?_, h3⟩
  obtain ⟨r, od, own⟩ := h2 x o hx
  exact ⟨r, od.up up fun b hb o' e => k.kp b o' (fun q => f.not_tb (own b hb).2.1 (by simpa using q)) e, fun b hb => ⟨k.o ▸ (own b hb).1, (own b hb).2⟩⟩

/-- all that is owned is let go -/
theorem Fm.freeze (f : Fm B O0 G s sc env V Γ Ω) : ∃ G', Tr B O0 G s G' s ∧ Fm B O0 G' s sc env V (frz Γ Ω) [] := by
  obtain ⟨Γp, α, β, se, h1, h2, h3⟩ := f.has
  classical
  have hsub : ∀ a ∈ G.O.filter (fun a => decide (a ∈ O0 ∨ a ∈ V ∨ ∃ y, env.cells.lookup y = some a)), a ∈ G.O := fun a ha => (List.mem_filter.mp ha).1
  have hO : ∀ a ∈ O0, a ∈ G.O.filter (fun a => decide (a ∈ O0 ∨ a ∈ V ∨ ∃ y, env.cells.lookup y = some a)) := fun a ha => List.mem_filter.mpr ⟨f.oo a ha, by simp [ha]⟩
  have hV : ∀ a ∈ V, a ∈ G.O.filter (fun a => decide (a ∈ O0 ∨ a ∈ V ∨ ∃ y, env.cells.lookup y = some a)) := fun a ha => List.mem_filter.mpr ⟨f.ow.sub a ha, by simp [ha]⟩
  have ht : ∀ a ∈ B.tb, a ∈ G.O.filter (fun a => decide (a ∈ O0 ∨ a ∈ V ∨ ∃ y, env.cells.lookup y = some a)) := fun a ha => hO a (f.tb a ha)
  have up := Up.free (G := G) (h := s.heap) hsub
  have st' := se.st.free hsub ht
  refine ⟨{ G with O := G.O.filter (fun a => decide (a ∈ O0 ∨ a ∈ V ∨ ∃ y, env.cells.lookup y = some a)) }, ⟨Kx.free (.refl se.st) hsub ht⟩, f.vo, hO, f.tb, fun a ha => f.nw a (hsub a ha), f.ow.gh hV, f.kn, f.cz, ?_⟩
  have no : ∀ x o, look Ω x = some o → Rd { G with O := G.O.filter (fun a => decide (a ∈ O0 ∨ a ∈ V ∨ ∃ y, env.cells.lookup y = some a)) } s.heap (.ref (α x)) (frzD o) := fun x o hx => by
    obtain ⟨r, od, own⟩ := h2 x o hx
    refine (od.up up fun _ _ _ e => e).rd fun b hb m => ?_
    have := (List.mem_filter.mp m).2
    rw [decide_eq_true_eq] at this
    rcases this with q | q | ⟨y, q⟩
    · exact (own b hb).2.1 q
    · exact (own b hb).2.2.1 q
    · exact (own b hb).2.2.2 y b q rfl
  have se' := se.gh st' up
  refine ⟨frz Γ Ω, α, β, ?_, fun _ _ h => h, fun _ _ h => (nomatch h), fun _ _ _ _ h => (nomatch h)⟩
  refine ⟨st', se.kind, se.glob, se.blt, se.lo, ?_, fun x hx => ?_⟩
  · obtain ⟨m, hm, hd⟩ := se'.ns
    refine ⟨m, hm, fun x d hx hk => ?_⟩
    rw [look_frz] at hx
    cases ho : look Ω x with
    | none => rw [ho] at hx; exact hd x d (h1 x d hx) hk
    | some o =>
      rw [ho] at hx; cases hx
      obtain ⟨v, hv, r⟩ := hd x _ (h2 x o ho).ref hk
      have hva : v = .ref (α x) := r.refI
      exact ⟨v, hv, hva ▸ no x o ho⟩
  · obtain ⟨c, hc, hct, hcz, hd⟩ := se'.cl x hx
    refine ⟨c, hc, hct, hcz, fun d hxd => ?_⟩
    rw [look_frz] at hxd
    cases ho : look Ω x with
    | none => rw [ho] at hxd; exact hd d (h1 x d hxd)
    | some o =>
      rw [ho] at hxd; cases hxd
      obtain ⟨v, hv, r⟩ := hd _ (h2 x o ho).ref
      have hva : v = .ref (α x) := r.refI
      exact ⟨v, hv, hva ▸ no x o ho⟩

/-- a name is stored anew -/
theorem Fm.stored {A : Around} {E : Value → Shared → Prop} {x : Str} {v : Value} {d : D} {Q : Unit → Shared → Prop} (f : Fm B O0 G s sc env V Γ Ω) (hx : storable sc x = true) (r : Rd G s.heap v d)
    (hQ : ∀ s', Tr B O0 G s G s' → Fm B O0 G s' sc env V (put Γ x d) (del Ω x) → Q () s') : WP B A (storeName env x v) Q E s := by
  obtain ⟨Γp, α, β, se, h1, h2, h3⟩ := f.has
  refine store_ok se f.ow (storable_iff hx) r fun s1 ka kw se1 ow1 => ?_
  have up := kw.up se.st f.ow.sub
  refine hQ s1 ⟨(Kx.of_kw se.st kw).mono fun a ha => mem_Wn.mpr ⟨f.ow.sub a ha, f.vo a ha⟩⟩ ⟨f.vo, f.oo, f.tb, f.nw, ow1, f.kn, fun y c hy => Nat.lt_of_lt_of_le (f.cz y c hy) kw.sz, put Γp x d, α, β, se1, fun y e hy => ?_, fun y o hy => ?_, fun y z o o' hy hz => ?_⟩
  · rw [look_put] at hy ⊢
    by_cases hyx : y = x
    · rw [if_pos hyx] at hy ⊢; exact hy
    · rw [if_neg hyx] at hy ⊢; exact h1 y e hy
  · rw [look_del] at hy
    by_cases hyx : y = x
    · rw [if_pos hyx] at hy; cases hy
    · rw [if_neg hyx] at hy
      obtain ⟨r, od, own⟩ := h2 y o hy
      exact ⟨by rw [look_put, if_neg hyx]; exact r, od.up up fun b hb o' e => kw.kp b o' (fun q => (List.mem_append.mp q).elim (own b hb).2.2.1 (f.not_tb (own b hb).2.1)) e, own⟩
  · rw [look_del] at hy hz
    by_cases hyx : y = x
    · rw [if_pos hyx] at hy; cases hy
    by_cases hzx : z = x
    · rw [if_pos hzx] at hz; cases hz
    rw [if_neg hyx] at hy; rw [if_neg hzx] at hz
    exact h3 y z o o' hy hz
end
end Mine

end
section
open PySem PySem.W PyProof.Rows
set_option Elab.async false
namespace Mine

noncomputable def delNs {α : Type} (Ω : List (Str × α)) : List Expr → List (Str × α)
  | [] => Ω
  | .Name x _ :: r => delNs (del Ω x) r
  | _ :: r => delNs Ω r
noncomputable def delT {α : Type} (Ω : List (Str × α)) (t : Expr) : List (Str × α) := match Ω with
  | [] => []
  | _ => match t with
    | .Name x _ => del Ω x
    | .Tuple es _ _ => delNs Ω es
    | _ => Ω
theorem delNs_nil {α : Type} : ∀ es : List Expr, delNs ([] : List (Str × α)) es = []
  | [] => rfl
  | e :: r => by cases e <;> exact delNs_nil r
theorem delT_eq {α : Type} (Ω : List (Str × α)) (t : Expr) : delT Ω t = match t with
    | .Name x _ => del Ω x
    | .Tuple es _ _ => delNs Ω es
    | _ => Ω := by
  cases Ω with
  | nil => cases t <;> first | rfl | exact (delNs_nil _).symm
  | cons _ _ => rfl

section
variable {B : Bs} {A : Around} {O0 : List Addr} {G G' G'' : Gh} {s s' s'' : Shared} {sc : Kd} {env : Env} {V : List Addr} {Γ Γ' : Gm} {Ω : Om} {E : Value → Shared → Prop} {m : Nat}

theorem Tr.up (t : Tr B O0 G s G' s') (st : St B G s) : Up G s.heap G' s'.heap := t.kx.up st fun _ ha => (mem_Wn.mp ha).1

theorem fm_bindNs : ∀ {es : List Expr} {ds : List D} {vs : List Value} {Γ Γ' : Gm} {Ω : Om} {s : Shared} {Q : Unit → Shared → Prop}, bindNs sc es ds Γ = some Γ' → Fm B O0 G s sc env V Γ Ω → RdL G s.heap vs ds →
    (∀ s', Tr B O0 G s G s' → Fm B O0 G s' sc env V Γ' (delNs Ω es) → Q () s') → WP B A (assignInOrder ((assignEach es env).map (·.2)) vs) Q E s
  | [], _, vs, Γ, Γ', Ω, s, Q, h, f, r, hQ => by
    obtain ⟨rfl, rfl⟩ := bindNs_nil h
    exact r.nilK (WP.pure (hQ s (.refl f.st) f))
  | e :: es, _, vs, Γ, Γ', Ω, s, Q, h, f, r, hQ => by
    obtain ⟨x, p, d, ds, rfl, rfl, hx, h⟩ := bindNs_inv h
    refine r.consK fun v vs rv rs => ?_
    show WP B A (do holding vs (assign (.Name x p) env v); assignInOrder ((assignEach es env).map (·.2)) vs) Q E s
    refine WP.bind (WP.holding ⟨@wpAny_assign_Name _ _ _ _ _ _ _ _ _ (f.stored hx rv fun s1 t1 f1 => ?_).w⟩)
    exact fm_bindNs h f1 (rs.up (t1.up f.st)) fun s2 t2 f2 => hQ s2 (t1.trans t2) f2

theorem fm_bind {t : Expr} {d : D} {v : Value} {Q : Unit → Shared → Prop} (rm : Room m A) (h : bindT sc t d Γ = some Γ') (f : Fm B O0 G s sc env V Γ Ω) (r : Rd G s.heap v d)
    (hQ : ∀ s', Tr B O0 G s G s' → Fm B O0 G s' sc env V Γ' (delT Ω t) → Q () s') : WP B A (assign t env v) Q E s := by
  rw [delT_eq] at hQ
  cases bindT_inv h with
  | name hx e => exact ⟨@wpAny_assign_Name _ _ _ _ _ _ _ _ _ (f.stored hx r fun s1 t1 f1 => hQ s1 t1 (e ▸ f1)).w⟩
  | tup e h =>
      subst e
      refine r.tupK fun a items n ha hl hd => ?_
      obtain ⟨h1, h2⟩ := bindNs_len (env := env) h
      rw [arm_assign_Tuple]
      refine WP.bind (WP.standAt ?_)
      unfold unpack
      rw [h1, h2]
      refine WP.bind (WP.holding (unpackItems_ok rm f.st hl hd fun s1 k1 => ?_))
      exact fm_bindNs h (f.ke k1) (hd.ke f.st k1) fun s2 t2 f2 => hQ s2 ((Tr.ke f.st k1).trans t2) f2

/-- a new thing is owned under its name -/
theorem Fm.newOwn {G1 : Gh} {s1 : Shared} {x : Str} {a : Addr} {as : List Addr} {o : OD} {Q : Unit → Shared → Prop} (f : Fm B O0 G s sc env V Γ Ω) (k : Ke B G s G1 s1) (has : ∀ b ∈ as, s.heap.objs.size ≤ b ∧ b < s1.heap.objs.size)
    (od : OdAt { G1 with O := as ++ G1.O } s1.heap a as o) (hx : storable sc x = true)
    (hQ : ∀ s', Tr B O0 G s { G1 with O := as ++ G1.O } s' → Fm B O0 { G1 with O := as ++ G1.O } s' sc env V (del Γ x) (putA Ω x o) → Q () s') : WP B A (storeName env x (.ref a)) Q E s1 := by
  obtain ⟨Γp, α, β, se, h1, h2, h3⟩ := f.has
  have kx : Kx B [] G s { G1 with O := as ++ G1.O } s1 := Kx.own f.st k (fun b hb => (List.mem_append.mp hb).elim (fun q => .inr (has b q)) fun q => .inl (k.o ▸ q)) fun b hb => List.mem_append_right _ (by rw [k.o]; exact hb)
  have se1 := se.k0 kx
  have up1 := kx.up f.st (fun _ h => nomatch h)
  have ow1 : Own B { G1 with O := as ++ G1.O } s1 sc env V := f.ow.k0 kx fun b hb => List.mem_append_right _ (by rw [k.o]; exact f.ow.sub b hb)
  have lowO : ∀ b ∈ G.O, b ∉ as := fun b hb q => Nat.not_lt.mpr (has b q).1 (f.st.lt b hb)
  refine store_ok se1 ow1 (storable_iff hx) (.ref a) fun s2 ka kw se2 ow2 => ?_
  have up2 := kw.up se1.st ow1.sub
  have hO : ∀ b, b ∈ as ++ G1.O → b ∈ as ∨ b ∈ G.O := fun b hb => (List.mem_append.mp hb).imp id fun q => k.o ▸ q
  refine hQ s2 ⟨(kx.mono (fun _ h => nomatch h)).trans (Kx.of_kw se1.st kw) fun b hb => .inl (mem_Wn.mpr ⟨f.ow.sub b hb, f.vo b hb⟩)⟩ ⟨f.vo, fun b hb => List.mem_append_right _ (by rw [k.o]; exact f.oo b hb), f.tb, fun b hb hn => ?_, ow2, f.kn,
    fun y c hy => Nat.lt_of_lt_of_le (f.cz y c hy) (Nat.le_trans k.sz kw.sz), put Γp x (.ref a), fun y => if y = x then a else α y, fun y => if y = x then as else β y, se2, fun y e hy => ?_, fun y o' hy => ?_, fun y z o1 o2 hy hz b hb hb' => ?_⟩
  · rcases hO b hb with q | q
    · exact f.st.fresh0 (has b q).1
    · exact f.nw b q hn
  · rw [look_del] at hy
    by_cases hyx : y = x
    · rw [if_pos hyx] at hy; cases hy
    · rw [if_neg hyx] at hy; rw [look_put, if_neg hyx]; exact h1 y e hy
  · rw [look_putA] at hy
    by_cases hyx : y = x
    · rw [if_pos hyx] at hy; cases hy
      simp only [if_pos hyx]
      refine ⟨by rw [look_put, if_pos hyx], od.up up2 fun b hb o' e => kw.kp b o' (fun q => ?_) e, fun b hb => ⟨List.mem_append_left _ hb, fun q => lowO b (f.oo b q) hb, fun q => lowO b (f.ow.sub b q) hb, fun y c hy q => ?_⟩⟩
      · rcases List.mem_append.mp q with q | q
        · exact lowO b (f.ow.sub b q) hb
        · exact lowO b (f.oo b (f.tb b q)) hb
      · exact Nat.not_lt.mpr (has b hb).1 (q ▸ f.cz y c hy)
    · rw [if_neg hyx] at hy
      simp only [if_neg hyx]
      obtain ⟨r, od', own⟩ := h2 y o' hy
      have od1 := od'.up up1 fun b hb o'' e => kx.kw.kp b o'' (fun q => f.not_tb (own b hb).2.1 (by simpa using q)) e
      exact ⟨by rw [look_put, if_neg hyx]; exact r, od1.up up2 fun b hb o'' e => kw.kp b o'' (fun q => (List.mem_append.mp q).elim (own b hb).2.2.1 (f.not_tb (own b hb).2.1)) e, fun b hb => ⟨List.mem_append_right _ (by rw [k.o]; exact (own b hb).1), (own b hb).2⟩⟩
  · rw [look_putA] at hy hz
    by_cases hyx : y = x
    · by_cases hzx : z = x
      · rw [hyx, hzx]
      · rw [if_neg hzx] at hz
        simp only [if_pos hyx] at hb
        simp only [if_neg hzx] at hb'
        exact absurd hb (lowO b ((h2 z o2 hz).own b hb').1)
    · rw [if_neg hyx] at hy
      simp only [if_neg hyx] at hb
      by_cases hzx : z = x
      · simp only [if_pos hzx] at hb'
        exact absurd hb' (lowO b ((h2 y o1 hy).own b hb).1)
      · rw [if_neg hzx] at hz
        simp only [if_neg hzx] at hb'
        exact h3 y z o1 o2 hy hz b hb hb'

/-- an owned thing is turned -/
theorem Fm.turn {x : Str} {o : OD} (f : Fm B O0 G s sc env V Γ Ω) (hx : look Ω x = some o) : ∃ a as, (∀ b ∈ as, b ∈ G.O ∧ b ∉ O0 ∧ b ∉ V) ∧ (∃ Γp, Sees B G s env Γp ∧ look Γp x = some (.ref a)) ∧
    ∀ G1 s1, Ke B G s G1 s1 → OdAt G1 s1.heap a as o ∧ ∀ s' o', Kw B as G1 s1 G1 s' → OdAt G1 s'.heap a as o' → Tr B O0 G s G1 s' ∧ Fm B O0 G1 s' sc env V Γ (putA Ω x o') := by
  obtain ⟨Γp, α, β, se, h1, h2, h3⟩ := f.has
  obtain ⟨r, od, own⟩ := h2 x o hx
  refine ⟨α x, β x, fun b hb => ⟨(own b hb).1, (own b hb).2.1, (own b hb).2.2.1⟩, ⟨Γp, se, r⟩, fun G1 s1 k1 => ?_⟩
  have f1 := f.ke k1
  have up1 := k1.up se.st
  have tr : ∀ y o1, look Ω y = some o1 → OwnT B O0 G1 s1 env V Γp y (α y) (β y) o1 := fun y o1 hy => by
    obtain ⟨r, od, own⟩ := h2 y o1 hy
    exact ⟨r, od.up up1 fun b hb o' e => k1.kp b o' (fun q => f.not_tb (own b hb).2.1 (by simpa using q)) e, fun b hb => ⟨k1.o ▸ (own b hb).1, (own b hb).2⟩⟩
  obtain ⟨_, od1, own1⟩ := tr x o hx
  refine ⟨od1, fun s' o' kw od' => ?_⟩
  have se1 := se.ke k1
  have hW : ∀ b ∈ β x, b ∈ G1.O := fun b hb => (own1 b hb).1
  have h0 : ∀ b ∈ β x, B.h0.get? b = none := fun b hb => f1.nw b (own1 b hb).1 (own1 b hb).2.1
  have up := kw.up se1.st hW
  refine ⟨(Tr.ke f.st k1).trans ⟨(Kx.of_kw se1.st kw).mono fun b hb => mem_Wn.mpr ⟨(own1 b hb).1, (own1 b hb).2.1⟩⟩, f1.vo, f1.oo, f1.tb, f1.nw, f1.ow.kw kw fun y c hy hc q => (own1 c q).2.2.2 y c hc rfl, f1.kn, fun y c hy => Nat.lt_of_lt_of_le (f1.cz y c hy) kw.sz, Γp, α, β,
    se1.kw kw hW h0 (fun q => (own1 _ q).2.2.1 f1.ow.loc) (fun y c hy q => (own1 c q).2.2.2 y c hy rfl), h1, fun y o1 hy => ?_, fun y z o1 o2 hy hz => ?_⟩
  · rw [look_putA] at hy
    by_cases hyx : y = x
    · rw [if_pos hyx] at hy; cases hy; subst hyx
      exact ⟨r, od', own1⟩
    · rw [if_neg hyx] at hy
      obtain ⟨r1, od1, own1⟩ := tr y o1 hy
      refine ⟨r1, od1.up up fun b hb o'' e => kw.kp b o'' (fun q => ?_) e, own1⟩
      rcases List.mem_append.mp q with q | q
      · exact hyx (h3 y x o1 o hy hx b hb q)
      · exact f1.not_tb (own1 b hb).2.1 q
  · have look' : ∀ y o1, look (putA Ω x o') y = some o1 → ∃ o2, look Ω y = some o2 := fun y o1 hy => by
      rw [look_putA] at hy
      by_cases hyx : y = x
      · exact ⟨o, hyx ▸ hx⟩
      · rw [if_neg hyx] at hy; exact ⟨o1, hy⟩
    obtain ⟨p1, hp1⟩ := look' y o1 hy
    obtain ⟨p2, hp2⟩ := look' z o2 hz
    exact h3 y z p1 p2 hp1 hp2
end
end Mine

end
section
open PySem PySem.W PyProof.Rows
set_option Elab.async false
namespace Mine

noncomputable def evF (ev : Gm → Expr → Option D) (Γ : Gm) (Ω : Om) (e : Expr) : Option (D × Gm × Om) := match ev Γ e with
  | some d => some (d, Γ, Ω)
  | none => match Ω with
    | [] => none
    | _ :: _ => match ev (frz Γ Ω) e with
      | some d => some (d, frz Γ Ω, [])
      | none => none
noncomputable abbrev Sv := Kd → Gm → Om → Stmt → Option Rs
noncomputable def evSs (rec : Sv) (sc : Kd) : List Stmt → Gm → Om → Option Rs
  | [], Γ, Ω => some (.nxt, Γ, Ω)
  | st :: r, Γ, Ω => match rec sc Γ Ω st with
    | none => none
    | some (fl, Γ', Ω') => match fl with
      | .nxt => evSs rec sc r Γ' Ω'
      | _ => some (fl, Γ', Ω')
noncomputable def forD (sc : Kd) (t : Expr) (body : Gm → Om → Option Rs) : List D → Gm → Om → Option Rs
  | [], Γ, Ω => some (.nxt, Γ, Ω)
  | x :: xs, Γ, Ω => match bindT sc t x Γ with
    | none => none
    | some Γ1 => match body Γ1 (delT Ω t) with
      | none => none
      | some (fl, Γ2, Ω2) => match fl with
        | .nxt => forD sc t body xs Γ2 Ω2
        | .cnt => forD sc t body xs Γ2 Ω2
        | .brk => some (.nxt, Γ2, Ω2)
        | .ret d => some (.ret d, Γ2, Ω2)
noncomputable def testD (ev : Gm → Expr → Option D) (Γ : Gm) (Ω : Om) (e : Expr) : Option (Bool × Gm × Om) := match evF ev Γ Ω e with
  | none => none
  | some (d, Γ', Ω') => match truth d with
    | none => none
    | some b => some (b, Γ', Ω')
noncomputable def isTup (e : Expr) : Bool := Nat.beq e.ctorIdx 25
noncomputable def isLst : Expr → Bool
  | .List _ _ => true
  | _ => false
noncomputable def tupD (ev : Kd → Gm → Expr → Option D) (sc : Kd) (Γ : Gm) (Ω : Om) (t v : Expr) : Option Rs := match evF (ev sc) Γ Ω v with
  | some (d, Γ', Ω') => match bindT sc t d Γ' with
    | some Γ2 => some (.nxt, Γ2, delT Ω' t)
    | none => none
  | none => none
noncomputable def assignD (ev : Kd → Gm → Expr → Option D) (sc : Kd) (Γ : Gm) (Ω : Om) (t v : Expr) : Option Rs := match t with
  | .Name x _ => match storable sc x with
    | false => none
    | true => match isLst v with
      | true => match evF (ev sc) Γ Ω v with
        | some (.lst ds, Γ', Ω') => some (.nxt, del Γ' x, putA Ω' x (.lst ds))
        | _ => none
      | false => match evF (ev sc) Γ Ω v with
        | some (d, Γ', Ω') => some (.nxt, put Γ' x d, del Ω' x)
        | none => none
  | .Tuple ts _ _ => match isTup v with
    | true => none
    | false => tupD ev sc Γ Ω t v
  | _ => none
noncomputable def augD (ev : Gm → Expr → Option D) (sc : Kd) (Γ : Gm) (Ω : Om) (x : Str) (op : Operator) (v : Expr) : Option Rs := match storable sc x with
  | false => none
  | true => match strEq x "__classdict__" with
    | true => none
    | false => match look Γ x with
      | none => none
      | some a => match ev Γ v with
        | none => none
        | some b => match inpOp op a b with
          | none => none
          | some d => some (.nxt, put Γ x d, del Ω x)
noncomputable def appendD (ev : Gm → Expr → Option D) (sc : Kd) (Γ : Gm) (Ω : Om) (x m : Str) (apos cpos : Pos) (e : Expr) : Option Rs := match strEq m "append" with
  | false => none
  | true => match strEq x "__debug__", strEq x "__classdict__" with
    | false, false => match apos.endLine == cpos.line, isStar e, storable sc x with
      | true, false, true => match look Ω x with
        | some (.lst ds) => match ev Γ e with
          | none => none
          | some d => match Nat.ble ds.length 900 with
            | true => some (.nxt, Γ, putA Ω x (.lst (ds ++ [d])))
            | false => none
        | _ => none
      | _, _, _ => none
    | _, _ => none

noncomputable def plainD : D → Bool
  | .none => true
  | .bool _ => true
  | .int _ => true
  | .flt _ => true
  | .str _ => true
  | _ => false
noncomputable def dropD (ev : Gm → Expr → Option D) (Γ : Gm) (Ω : Om) (e : Expr) : Option Rs := match evF ev Γ Ω e with
  | none => none
  | some (d, Γ1, Ω1) => match plainD d with
    | true => some (.nxt, Γ1, Ω1)
    | false => none
noncomputable def exprD (ev : Kd → Gm → Expr → Option D) (sc : Kd) (Γ : Gm) (Ω : Om) (e : Expr) : Option Rs := match e with
  | .Call f args kws cpos => match kws with
    | k :: ks => dropD (ev sc) Γ Ω (.Call f args (k :: ks) cpos)
    | [] => match f with
      | .Attribute o m apos => match nameOf o with
        | some x => match args with
          | [a] => appendD (ev sc) sc Γ Ω x m apos cpos a
          | _ => none
        | none => none
      | _ => none
  | _ => none
noncomputable def evB (ev : Kd → Gm → Expr → Option D) (k : Nat) (rec : Sv) (sc : Kd) (Γ : Gm) (Ω : Om) (st : Stmt) : Option Rs := match st with
    | .Assign ts v _ => match ts with
      | [t] => assignD ev sc Γ Ω t v
      | _ => none
    | .AugAssign t op v _ => match t with
      | .Name x _ => augD (ev sc) sc Γ Ω x op v
      | _ => none
    | .If t b o _ => match testD (ev sc) Γ Ω t with
      | none => none
      | some (c, Γ1, Ω1) => match c with
        | true => evSs rec sc b Γ1 Ω1
        | false => evSs rec sc o Γ1 Ω1
    | .For t i b o _ => match o, isSet i with
      | [], false => match evF (ev sc) Γ Ω i with
        | none => none
        | some (d, Γ1, Ω1) => match iterD d with
          | none => none
          | some xs => forD sc t (evSs rec sc b) xs Γ1 Ω1
      | _, _ => none
    | .Return e _ => match e with
      | none => some (.ret .none, Γ, Ω)
      | some e => match evF (ev sc) Γ Ω e with
        | none => none
        | some (d, Γ1, Ω1) => some (.ret d, Γ1, Ω1)
    | .Expr e _ => exprD ev sc Γ Ω e
    | .Pass _ => some (.nxt, Γ, Ω)
    | _ => none
noncomputable def evS1 (H : Hk) (ev : Kd → Gm → Expr → Option D) (k : Nat) (rec : Sv) : Sv := fun sc Γ Ω st => match H.S sc Γ Ω st with
  | some r => some r
  | none => evB ev k rec sc Γ Ω st
noncomputable def evS (H : Hk) (ev : Kd → Gm → Expr → Option D) (k n : Nat) : Sv := Nat.rec (fun _ _ _ _ => none) (fun _ rec => evS1 H ev k rec) n

/-! what is to be shown -/
noncomputable def FlOk (G : Gh) (s : Shared) : Flow → Fl → Prop
  | .next, .nxt => True
  | .brk, .brk => True
  | .cont, .cnt => True
  | .ret v, .ret d => Rd G s.heap v d
  | _, _ => False
noncomputable def PostS (B : Bs) (O0 : List Addr) (G : Gh) (s : Shared) (sc : Kd) (env : Env) (V : List Addr) (r : Rs) (Q : Flow → Shared → Prop) : Prop :=
  ∀ f G' s', Tr B O0 G s G' s' → Fm B O0 G' s' sc env V r.2.1 r.2.2 → FlOk G' s' f r.1 → Q f s'
noncomputable def OkS (B : Bs) (L : Nat) (rec : Sv) : Prop := ∀ sc Γ Ω st r, rec sc Γ Ω st = some r → ∀ A O0 G s env V E Q, Room L A → Fm B O0 G s sc env V Γ Ω → PostS B O0 G s sc env V r Q → WP B A (exec st env) Q E s

section
variable {B : Bs} {A : Around} {O0 : List Addr} {G G' G'' : Gh} {s s' s'' : Shared} {sc : Kd} {env : Env} {V : List Addr} {Γ Γ' : Gm} {Ω Ω' : Om} {E : Value → Shared → Prop} {L : Nat} {ev : Ev} {rec : Sv}

theorem PostS.after {r : Rs} {Q : Flow → Shared → Prop} (h : PostS B O0 G s sc env V r Q) (t : Tr B O0 G s G' s') : PostS B O0 G' s' sc env V r Q := fun f G2 s2 t2 f2 fl => h f G2 s2 (t.trans t2) f2 fl

theorem evF_ok {e : Expr} {d : D} (f : Fm B O0 G s sc env V Γ Ω) (h : evF (ev sc) Γ Ω e = some (d, Γ', Ω')) : ∃ G', Tr B O0 G s G' s ∧ Fm B O0 G' s sc env V Γ' Ω' ∧ ev sc Γ' e = some d := by
  unfold evF at h
  split at h
  · rename_i d' hd
    cases h
    exact ⟨G, .refl f.st, f, hd⟩
  · split at h
    · first | exact nsd h | exact nft h | exact ntf h | cases h
    · split at h
      · rename_i d' hd
        cases h
        obtain ⟨G', t, f'⟩ := f.freeze
        exact ⟨G', t, f', hd⟩
      · first | exact nsd h | exact nft h | exact ntf h | cases h

theorem ss_ok (ok : OkS B L rec) (rm : Room L A) : ∀ {sts : List Stmt} {Γ : Gm} {Ω : Om} {r : Rs} {G : Gh} {s : Shared} {Q : Flow → Shared → Prop}, evSs rec sc sts Γ Ω = some r → Fm B O0 G s sc env V Γ Ω → PostS B O0 G s sc env V r Q → WP B A (execs sts env) Q E s
  | [], Γ, Ω, r, G, s, Q, h, f, hQ => by
    cases h
    exact ⟨@wpAny_execs_nil _ _ _ _ _ _ (hQ .next G s (.refl f.st) f trivial)⟩
  | st :: sts, Γ, Ω, r, G, s, Q, h, f, hQ => by
    unfold evSs at h
    split at h
    · first | exact nsd h | exact nft h | exact ntf h | cases h
    rename_i fl Γ1 Ω1 h1
    refine ⟨@wpAny_execs_cons _ _ _ _ _ _ _ _ (ok sc Γ Ω st _ h1 A O0 G s env V E _ rm f fun fw G1 s1 t1 f1 hfl => ?_).w⟩
    cases fl <;> simp only at h
    case nxt =>
      cases fw <;> first | exact False.elim hfl | skip
      exact (ss_ok ok rm h f1 (hQ.after t1)).w
    case brk =>
      cases fw <;> first | exact False.elim hfl | skip
      cases h; exact hQ .brk G1 s1 t1 f1 trivial
    case cnt =>
      cases fw <;> first | exact False.elim hfl | skip
      cases h; exact hQ .cont G1 s1 t1 f1 trivial
    case ret d =>
      cases fw <;> first | exact False.elim hfl | skip
      cases h; exact hQ _ G1 s1 t1 f1 hfl

theorem test_okS (okT : OkT B L ev) (rm : Room L A) {e : Expr} {b : Bool} {Q : Bool → Shared → Prop} (f : Fm B O0 G s sc env V Γ Ω) (h : testD (ev sc) Γ Ω e = some (b, Γ', Ω'))
    (hQ : ∀ G' s', Tr B O0 G s G' s' → Fm B O0 G' s' sc env V Γ' Ω' → Q b s') : WP B A (isTrue e env (eval e env)) Q E s := by
  unfold testD at h
  split at h
  · first | exact nsd h | exact nft h | exact ntf h | cases h
  rename_i d Γ1 Ω1 h1
  split at h
  · first | exact nsd h | exact nft h | exact ntf h | cases h
  rename_i b' hb
  cases h
  obtain ⟨G1, t1, f1, hev⟩ := evF_ok f h1
  exact okT sc Γ' e d b hev hb A G1 s env E _ rm f1.kn f1.se fun G2 s2 k2 => hQ G2 s2 (t1.trans (Tr.ke f1.st k2)) (f1.ke k2)

/-- an expression's value, in a frame -/
theorem eval_okS (ok : OkE B L ev) (rm : Room L A) {e : Expr} {d : D} {Q : Value → Shared → Prop} (f : Fm B O0 G s sc env V Γ Ω) (h : evF (ev sc) Γ Ω e = some (d, Γ', Ω'))
    (hQ : ∀ v G' s', Tr B O0 G s G' s' → Fm B O0 G' s' sc env V Γ' Ω' → Rd G' s'.heap v d → Q v s') : WP B A (eval e env) Q E s := by
  obtain ⟨G1, t1, f1, hev⟩ := evF_ok f h
  exact ok sc Γ' e d hev A G1 s env E _ rm f1.kn f1.se fun v G2 s2 k2 r2 => hQ v G2 s2 (t1.trans (Tr.ke f1.st k2)) (f1.ke k2) r2
end
end Mine

end
section
open PySem PySem.W PyProof.Rows
set_option Elab.async false
namespace Mine

section
variable {B : Bs} {A : Around} {O0 : List Addr} {G G' G'' Gb : Gh} {s s' s'' sb : Shared} {sc : Kd} {env : Env} {V : List Addr} {Γ Γ' : Gm} {Ω Ω' : Om} {E : Value → Shared → Prop} {L : Nat} {ev : Ev} {rec : Sv} {I : Addr}

/-- a new thing that the frame holds but that its statements shall not turn -/
theorem Fm.openI {O' : List Addr} (f : Fm B O0 G s sc env V Γ Ω) (k : Kx B [] G s { G' with O := O' } s') (hO : ∀ a, a ∈ O' ↔ a = I ∨ a ∈ G.O) (h1 : s.heap.objs.size ≤ I) : Fm B (I :: O0) { G' with O := O' } s' sc env V Γ Ω := by
  obtain ⟨Γp, α, β, se, g1, g2, g3⟩ := f.has
  have up := k.up f.st (fun _ h => nomatch h)
  have low : ∀ a ∈ G.O, a ≠ I := fun a ha q => Nat.not_lt.mpr h1 (q ▸ f.st.lt a ha)
  refine ⟨fun a ha q => (List.mem_cons.mp q).elim (low a (f.ow.sub a ha)) (f.vo a ha), fun a ha => (hO a).mpr ((List.mem_cons.mp ha).imp id (f.oo a)), fun a ha => List.mem_cons_of_mem _ (f.tb a ha), fun a ha hn => ?_,
    f.ow.k0 k fun a ha => (hO a).mpr (.inr (f.ow.sub a ha)), f.kn, fun y c hy => Nat.lt_of_lt_of_le (f.cz y c hy) k.sz, Γp, α, β, se.k0 k, g1, fun x o hx => ?_, g3⟩
  · rcases (hO a).mp ha with q | q
    · exact absurd (q ▸ List.mem_cons_self) hn
    · exact f.nw a q fun m => hn (List.mem_cons_of_mem _ m)
  · obtain ⟨r, od, own⟩ := g2 x o hx
    exact ⟨r, od.up up fun b hb o' e => k.kw.kp b o' (fun q => f.not_tb (own b hb).2.1 (by simpa using q)) e, fun b hb => ⟨(hO b).mpr (.inr (own b hb).1), fun q => (List.mem_cons.mp q).elim (low b (own b hb).1) (own b hb).2.1, (own b hb).2.2⟩⟩
theorem Fm.closeI (f : Fm B (I :: O0) G s sc env V Γ Ω) (h0 : B.h0.get? I = none) : Fm B O0 G s sc env V Γ Ω := by
  obtain ⟨Γp, α, β, se, g1, g2, g3⟩ := f.has
  refine ⟨fun a ha q => f.vo a ha (List.mem_cons_of_mem _ q), fun a ha => f.oo a (List.mem_cons_of_mem _ ha), fun a ha => (List.mem_cons.mp (f.tb a ha)).elim (fun q => absurd (q ▸ ha) (Mine.not_tb h0)) id, fun a ha hn => ?_, f.ow, f.kn, f.cz, Γp, α, β, se, g1, fun x o hx => ?_, g3⟩
  · by_cases q : a = I
    · rw [q]; exact h0
    · exact f.nw a ha fun m => (List.mem_cons.mp m).elim q hn
  · obtain ⟨r, od, own⟩ := g2 x o hx
    exact ⟨r, od, fun b hb => ⟨(own b hb).1, fun q => (own b hb).2.1 (List.mem_cons_of_mem _ q), (own b hb).2.2⟩⟩
theorem Fm.kwI (f : Fm B (I :: O0) G s sc env V Γ Ω) (k : Kw B [I] G s G s') (hc : ∀ y c, env.cells.lookup y = some c → c ≠ I) (h0 : B.h0.get? I = none) : Fm B (I :: O0) G s' sc env V Γ Ω := by
  obtain ⟨Γp, α, β, se, g1, g2, g3⟩ := f.has
  have hI : I ∈ G.O := f.oo I List.mem_cons_self
  have hW : ∀ a ∈ [I], a ∈ G.O := fun a ha => by rw [List.mem_singleton.mp ha]; exact hI
  have hc' : ∀ y c, env.cells.lookup y = some c → c ∉ [I] := fun y c hy q => hc y c hy (List.mem_singleton.mp q)
  have up := k.up f.st hW
  refine ⟨f.vo, f.oo, f.tb, f.nw, f.ow.kw k fun x c _ hx => hc' x c hx, f.kn, fun y c hy => Nat.lt_of_lt_of_le (f.cz y c hy) k.sz, Γp, α, β, se.kw k hW (fun a ha => by rw [List.mem_singleton.mp ha]; exact h0) (fun q => f.vo _ f.ow.loc (List.mem_singleton.mp q ▸ List.mem_cons_self)) hc', g1, fun x o hx => ?_, g3⟩
  obtain ⟨r, od, own⟩ := g2 x o hx
  exact ⟨r, od.up up fun b hb o' e => k.kp b o' (fun q => (List.mem_append.mp q).elim (fun q => (own b hb).2.1 (List.mem_singleton.mp q ▸ List.mem_cons_self)) (f.not_tb (own b hb).2.1)) e, own⟩
theorem Tr.sub (t : Tr B O0 Gb sb G s) (t' : Tr B (I :: O0) G s G' s') : Tr B O0 Gb sb G' s' := ⟨t.kx.trans t'.kx fun a ha => by
  obtain ⟨h1, h2⟩ := mem_Wn.mp ha
  exact (t.kx.o a h1).imp (fun q => mem_Wn.mpr ⟨q, fun m => h2 (List.mem_cons_of_mem _ m)⟩) id⟩
theorem Tr.kwI (t : Tr B O0 Gb sb G s) (st : St B G s) (k : Kw B [I] G s G s') (hI : sb.heap.objs.size ≤ I) : Tr B O0 Gb sb G s' := ⟨t.kx.trans (Kx.of_kw st k) fun a ha => .inr (by rw [List.mem_singleton.mp ha]; exact hI)⟩

inductive FInv (B : Bs) (A : Around) (O0 : List Addr) (G : Gh) (s : Shared) (sc : Kd) (env : Env) (V : List Addr) (I : Addr) (run : List D → Gm → Om → Option Rs) (r : Rs) (k : Nat) (s3 : Shared) : Prop
  | mk (G3 : Gh) (xs3 : List D) (Γ3 : Gm) (Ω3 : Om) (hk : xs3.length = k) (t3 : Tr B O0 G s G3 s3) (f3 : Fm B (I :: O0) G3 s3 sc env V Γ3 Ω3) (src : Src B A I G3 s3 xs3) (h : run xs3 Γ3 Ω3 = some r) : FInv B A O0 G s sc env V I run r k s3
theorem for_core (ok : OkS B L rec) (rm : Room L A) {t i : Expr} {b : List Stmt} {pos : Pos} {xs : List D} {r : Rs} {Q : Flow → Shared → Prop} (hset : isSet i = false)
    (hit : ∀ Qi : Value → Shared → Prop, (∀ I G1 s1 s2, Tr B O0 G s G1 s1 → Fm B O0 G1 s1 sc env V Γ' Ω' → s1.heap.objs.size ≤ I → I < s2.heap.objs.size → Ke B G1 s1 G1 s2 → Src B A I { G1 with O := I :: G1.O } s2 xs → Qi (.ref I) s2) → WP B A (eval i env) (fun v s1 => WP B A (pyIter v) Qi E s1) E s)
    (h3 : forD sc t (evSs rec sc b) xs Γ' Ω' = some r) (hQ : PostS B O0 G s sc env V r Q) : WP B A (exec (.For t i b [] pos) env) Q E s := by
  refine ⟨@wpAny_For _ _ _ _ _ _ _ _ _ _ _ (@wpAny_mono _ _ _ _ _ _ _ _ _ (hit _ fun I G1 s1 s2 t1 f1 hI1 hI2 k2 src => ?_).w (fun _ _ x => x.w) fun _ _ x => x) (folded_of hset env)⟩
  have hI0 := f1.st.fresh0 hI1
  have hIt := Mine.not_tb hI0
  have kx : Kx B [] G1 s1 { G1 with O := I :: G1.O } s2 := Kx.own f1.st k2 (fun a ha => (List.mem_cons.mp ha).elim (fun q => .inr (q ▸ ⟨hI1, hI2⟩)) .inl) fun a ha => List.mem_cons_of_mem _ ha
  have f2 : Fm B (I :: O0) { G1 with O := I :: G1.O } s2 sc env V Γ' Ω' := f1.openI kx (fun a => List.mem_cons) hI1
  have t2 : Tr B O0 G s { G1 with O := I :: G1.O } s2 := t1.trans ⟨kx.mono fun _ h => nomatch h⟩
  have hIb : s.heap.objs.size ≤ I := Nat.le_trans t1.kx.sz hI1
  have hc : ∀ y c, env.cells.lookup y = some c → c ≠ I := fun y c hy q => Nat.not_lt.mpr hI1 (q ▸ f1.cz y c hy)
  refine @codeAny_forLoop_any _ _ _ _ _ _ _ _ _ _ (FInv B A O0 G s sc env V I (forD sc t (evSs rec sc b)) r) (fun k s3 hInv => ?_) xs.length ⟨_, xs, Γ', Ω', rfl, t2, f2, src, h3⟩
  obtain ⟨G3, xs3, Γ3, Ω3, hk, t3, f3, src3, h3'⟩ := hInv
  have hI3 : I ∈ G3.O := f3.oo I List.mem_cons_self
  cases xs3 with
  | nil =>
    cases h3'
    refine (src3.done f3.st hIt fun s4 k4 => ?_).w
    exact @wpAny_execs_nil _ _ _ _ _ _ (hQ .next G3 s4 (t3.kwI f3.st k4 hIb) ((f3.kwI k4 hc hI0).closeI hI0) trivial)
  | cons x xs3 =>
    refine (src3.next f3.st hI3 hIt fun v' s4 k4 rv src4 => ?_).w
    have f4 := f3.kwI k4 hc hI0
    have t4 := t3.kwI f3.st k4 hIb
    unfold forD at h3'
    split at h3'
    · first | exact nsd h3' | exact nft h3' | exact ntf h3' | cases h3'
    rename_i Γ4 hb
    refine (go_ok hb src4 ?_).w
    refine (fm_bind rm hb f4 rv fun s5 t5 f5 => ?_).w
    have notW : ∀ G : Gh, I ∉ Wn G (I :: O0) := fun G q => (mem_Wn.mp q).2 List.mem_cons_self
    have src5 := src4.kx t5.kx f4.st (fun a ha => (mem_Wn.mp ha).1) (notW _) hIt
    split at h3'
    · first | exact nsd h3' | exact nft h3' | exact ntf h3' | cases h3'
    rename_i fl Γ6 Ω6 hbody
    refine (ss_ok ok rm hbody f5 fun fw G6 s6 t6 f6 hfl => ?_).w
    have src6 := src5.kx t6.kx f5.st (fun a ha => (mem_Wn.mp ha).1) (notW _) hIt
    have tt := (t4.sub t5).sub t6
    cases fl <;> simp only at h3' <;> (cases fw <;> first | exact False.elim hfl | skip)
    · exact ⟨xs3.length, by rw [← hk]; exact Nat.lt_succ_self _, ⟨G6, xs3, Γ6, Ω6, rfl, tt, f6, src6, h3'⟩⟩
    · cases h3'
      exact hQ .next G6 s6 tt (f6.closeI hI0) trivial
    · exact ⟨xs3.length, by rw [← hk]; exact Nat.lt_succ_self _, ⟨G6, xs3, Γ6, Ω6, rfl, tt, f6, src6, h3'⟩⟩
    · cases h3'
      exact hQ _ G6 s6 tt (f6.closeI hI0) hfl

theorem for_ok (ok : OkS B L rec) (okE : OkE B L ev) (rm : Room L A) {t i : Expr} {b : List Stmt} {pos : Pos} {d : D} {xs : List D} {r : Rs} {Q : Flow → Shared → Prop} (f : Fm B O0 G s sc env V Γ Ω) (hset : isSet i = false)
    (h1 : evF (ev sc) Γ Ω i = some (d, Γ', Ω')) (h2 : iterD d = some xs) (h3 : forD sc t (evSs rec sc b) xs Γ' Ω' = some r) (hQ : PostS B O0 G s sc env V r Q) : WP B A (exec (.For t i b [] pos) env) Q E s :=
  for_core ok rm hset (fun Qi h => eval_okS okE rm f h1 fun v G1 s1 t1 f1 r1 => iter_ok rm f1.st r1 h2 fun I s2 hI1 hI2 k2 src => h I G1 s1 s2 t1 f1 hI1 hI2 k2 src) h3 hQ

theorem if_ok (ok : OkS B L rec) (okT : OkT B L ev) (rm : Room L A) {t : Expr} {b o : List Stmt} {pos : Pos} {c : Bool} {r : Rs} {Q : Flow → Shared → Prop} (f : Fm B O0 G s sc env V Γ Ω) (ht : testD (ev sc) Γ Ω t = some (c, Γ', Ω'))
    (h : evSs rec sc (match c with | true => b | false => o) Γ' Ω' = some r) (hQ : PostS B O0 G s sc env V r Q) : WP B A (exec (.If t b o pos) env) Q E s := by
  refine ⟨@wpAny_If _ _ _ _ _ _ _ _ _ _ (test_okS okT rm f ht fun G1 s1 t1 f1 => ?_).w⟩
  cases c
  · rw [if_neg (by simp)]; exact (ss_ok ok rm h f1 (hQ.after t1)).w
  · rw [if_pos rfl]; exact (ss_ok ok rm h f1 (hQ.after t1)).w
end
end Mine

end
section
open PySem PySem.W PyProof.Rows
set_option Elab.async false
namespace Mine

section
variable {B : Bs} {A : Around} {O0 : List Addr} {G G' G'' Gb : Gh} {s s' s'' sb : Shared} {sc : Kd} {env : Env} {V : List Addr} {Γ Γ' : Gm} {Ω Ω' : Om} {E : Value → Shared → Prop} {L : Nat} {X : Nv} {rec : Sv} {I : Addr}

/-- nothing is swapped -/
theorem assign_plain {t v : Expr} {pos : Pos} {Q : Flow → Shared → Prop} (hs : swapsWith v (some t) pos.line env = pure false) (hw : swappedStores [t] v env = pure none) (ht : (assignEach [t] env).map (·.2) = [assign t env])
    (h : WP B A (eval v env) (fun w s1 => WP B A (assign t env w) (fun _ => Q .next) E s1) E s) : WP B A (exec (.Assign [t] v pos) env) Q E s := by
  refine ⟨@wpAny_Assign_stores _ _ _ _ _ _ _ _ _ ?_ hs hw⟩
  rw [ht]
  exact @wpAny_mono _ _ _ _ _ _ _ _ _ h.w (fun _ _ x => x.w) fun _ _ x => x

noncomputable def isComp (e : Expr) : Bool := Nat.beq e.ctorIdx 8 || (Nat.beq e.ctorIdx 9 || Nat.beq e.ctorIdx 10)
theorem swaps_not {v t : Expr} {line : Nat} (h : isComp v = false) : swapsWith v (some t) line env = pure false := by
  cases v <;> first | exact ntf h | rfl

/-- a list display is owned -/
theorem own_ok (nv : NvOk B L X) (rm : Room L A) {n : Nat} {x : Str} {px lp pos : Pos} {es : List Expr} {ds : List D} {Q : Flow → Shared → Prop} (f : Fm B O0 G s sc env V Γ Ω) (hx : storable sc x = true)
    (h : evF (evE X n sc) Γ Ω (.List es lp) = some (.lst ds, Γ', Ω')) (hQ : PostS B O0 G s sc env V (.nxt, del Γ' x, putA Ω' x (.lst ds)) Q) : WP B A (exec (.Assign [.Name x px] (.List es lp) pos) env) Q E s := by
  obtain ⟨G1, t1, f1, hev⟩ := evF_ok f h
  cases n with
  | zero => first | exact nsd hev | exact nft hev | exact ntf hev | cases hev
  | succ n =>
    have hev : evE1 X (evE X n) sc Γ' (.List es lp) = some (.lst ds) := hev
    unfold evE1 at hev; dsimp only at hev
    split at hev
    · first | exact nsd hev | exact nft hev | exact ntf hev | cases hev
    rename_i ds' hds
    split at hev
    · rename_i hl
      cases hev
      have hl := Nat.le_of_ble_eq_true hl
      refine assign_plain rfl rfl rfl ⟨@wpAny_List_spliced _ _ _ _ _ _ _ _ _ (each_ok (evE_ok nv n).1 rm f1.kn hds f1.se fun vs G2 s2 k2 r2 => ⟨by rw [r2.length, sizeLine_eq]; omega, ?_⟩).w⟩
      have st2 := f1.st.ke k2
      have kp : Ke B G2 s2 G2 { s2 with heap := s2.heap.push { cls := .type "list", data := .seq vs.toArray } } := Ke.push st2 _ (Nat.le_refl _)
      refine ⟨@wpAny_assign_Name _ _ _ _ _ _ _ _ _ (f1.newOwn (x := x) (as := [s2.heap.objs.size]) (k2.trans kp) (fun b hb => ?_) (.lst (Heap.get?_push_size _ rfl) ?_) hx fun s3 t3 f3 => hQ .next _ s3 (t1.trans t3) f3 trivial).w⟩
      · rw [List.mem_singleton.mp hb]
        refine ⟨k2.sz, ?_⟩
        show s2.heap.objs.size < (s2.heap.push _).objs.size
        rw [Heap.size_push]; exact Nat.lt_succ_self _
      · exact RdL.up (G := G2) (h := s2.heap) (G' := { G2 with O := [s2.heap.objs.size] ++ G2.O }) ⟨Kp.push _ _ _, fun a ha => (List.mem_append.mp ha).elim (fun q => .inr (List.mem_singleton.mp q ▸ get_size_none _)) .inl, Nat.le_refl _, fun _ _ => rfl⟩ (by simpa using r2)
    · first | exact nsd hev | exact nft hev | exact ntf hev | cases hev

/-- a comprehension under a name, its variables let go behind the store -/
theorem usecomp_ok (nv : NvOk B L X) (rm : Room L A) {n : Nat} {x : Str} {px cp pos : Pos} {elt : Expr} {gens : List Comprehension} {scope : Scope} {d : D} {Q : Flow → Shared → Prop} (f : Fm B O0 G s sc env V Γ Ω) (hx : storable sc x = true)
    (h : evF (evE X n sc) Γ Ω (.ListComp elt gens scope cp) = some (d, Γ', Ω')) (hQ : PostS B O0 G s sc env V (.nxt, put Γ' x d, del Ω' x) Q)
    (hs : swapsWith (.ListComp elt gens scope cp) (some (.Name x px)) pos.line env = pure true) : WP B A (exec (.Assign [.Name x px] (.ListComp elt gens scope cp) pos) env) Q E s := by
  obtain ⟨G1, t1, f1, hev⟩ := evF_ok f h
  cases n with
  | zero => first | exact nsd hev | exact nft hev | exact ntf hev | cases hev
  | succ n =>
    have hev : compD (evE X n) sc Γ' elt gens scope = some d := hev
    obtain ⟨g, gs, out, rfl, rfl, has⟩ := compD_lst hev
    have hfa : firstAsync (g :: gs) = false := by
      obtain ⟨a, b, c, e⟩ := g
      have : e = 0 := has
      subst this; rfl
    rw [exec_Assign_Name_used _ _ _ _ hs]
    refine WP.bind (WP.standAt (WP.bind ?_))
    show WP B A (do let _ ← comprehension (.ListComp elt (g :: gs) scope cp) scope env (firstIterPos (g :: gs) cp) (newList []) (firstAsync (g :: gs)) (firstIter (g :: gs) env) (some (assign (.Name x px) env))) _ E s
    rw [hfa]
    obtain ⟨target, iter, ifs, as⟩ := g
    refine WP.bind (comp_core (g := ⟨target, iter, ifs, as⟩) (use := some (assign (.Name x px) env)) (Q := fun _ s' => WP B A (pure ()) (fun _ s'' => WP B A (pure Flow.next) Q E s'') E s') (evE_ok nv n).1 (evE_ok nv n).2 rm f1.kn f1.se hev fun G2 s2 acc C items m kx hsub hacc hC haO hCO hne hl rl hns => ?_)
    have st2 := kx.st f1.st (fun _ h => nomatch h)
    have hCt : C ∉ B.tb := Mine.not_tb (f1.st.fresh0 hC)
    have hsub2 : ∀ a ∈ C :: G1.O, a ∈ G2.O := fun a ha => (List.mem_cons.mp ha).elim (fun q => q ▸ hCO) (hsub a)
    have kx3 : Kx B [] G1 s { G2 with O := C :: G1.O } s2 := kx.free hsub2 fun a ha => List.mem_cons_of_mem _ (f1.st.sub a ha)
    have f3 : Fm B (C :: O0) { G2 with O := C :: G1.O } s2 sc env V Γ' Ω' := f1.openI kx3 (fun a => List.mem_cons) hC
    have hc : ∀ y c, env.cells.lookup y = some c → c ≠ C := fun y c hy q => Nat.not_lt.mpr hC (q ▸ f1.cz y c hy)
    have r3 : Rd { G2 with O := C :: G1.O } s2.heap (.ref acc) (.lst out) := .lst (n := m) (fun q => (List.mem_cons.mp q).elim hne (f1.st.fresh hacc)) hl (rl.up (Up.free hsub2))
    show wpAny B.M A (assign (.Name x px) env (.ref acc)) _ E s2
    refine @wpAny_assign_Name _ _ _ _ _ _ _ _ _ (f3.stored hx r3 fun s4 t4 f4 => ?_).w
    obtain ⟨mm, hm⟩ := hns
    have hm4 : s4.heap.Ns C mm := t4.kx.kw.kp.ns (fun q => (List.mem_append.mp q).elim (fun q => (mem_Wn.mp q).2 List.mem_cons_self) hCt) hm
    refine ⟨mm, hm4, fun h' hs' => WP.pure (WP.pure ?_)⟩
    have k5 : Kw B [C] { G2 with O := C :: G1.O } s4 { G2 with O := C :: G1.O } { s4 with heap := h' } := Kw.same1 f4.st (List.mem_singleton.mpr rfl) hCt hs' (Nat.le_refl _) (.ns hm4)
    have h0 := f1.st.fresh0 hC
    have t3 : Tr B O0 G s { G2 with O := C :: G1.O } s2 := t1.trans ⟨kx3.mono fun _ h => nomatch h⟩
    exact hQ .next _ _ ((t3.sub t4).kwI f4.st k5 (Nat.le_trans t1.kx.sz hC)) ((f4.kwI k5 hc h0).closeI h0) trivial

theorem name_assign_ok (nv : NvOk B L X) (rm : Room L A) {n : Nat} {x : Str} {px pos : Pos} {v : Expr} {d : D} {Q : Flow → Shared → Prop} (f : Fm B O0 G s sc env V Γ Ω) (hx : storable sc x = true)
    (h : evF (evE X n sc) Γ Ω v = some (d, Γ', Ω')) (hQ : PostS B O0 G s sc env V (.nxt, put Γ' x d, del Ω' x) Q) : WP B A (exec (.Assign [.Name x px] v pos) env) Q E s := by
  have plain : swapsWith v (some (.Name x px)) pos.line env = pure false → WP B A (exec (.Assign [.Name x px] v pos) env) Q E s := fun hs => by
    refine assign_plain hs (by cases v <;> rfl) rfl (eval_okS (evE_ok nv n).1 rm f h fun w G1 s1 t1 f1 r1 => ⟨@wpAny_assign_Name _ _ _ _ _ _ _ _ _ (f1.stored hx r1 fun s2 t2 f2 => hQ .next G1 s2 (t1.trans t2) f2 trivial).w⟩)
  cases hc : isComp v with
  | false => exact plain (swaps_not hc)
  | true =>
    cases v <;> first | exact nft hc | skip
    case ListComp elt gens scope cp =>
      have e : ∃ b, swapsWith (.ListComp elt gens scope cp) (some (.Name x px)) pos.line env = pure b := ⟨_, rfl⟩
      obtain ⟨b, hb⟩ := e
      cases b with
      | false => exact plain hb
      | true => exact usecomp_ok nv rm f hx h hQ hb
    all_goals
      obtain ⟨G1, t1, f1, hev⟩ := evF_ok f h
      cases n <;> cases hev

theorem aug_ok (nv : NvOk B L X) (rm : Room L A) {n : Nat} {x : Str} {px pos : Pos} {op : Operator} {v : Expr} {r : Rs} {Q : Flow → Shared → Prop} (f : Fm B O0 G s sc env V Γ Ω) (h : augD (evE X n sc) sc Γ Ω x op v = some r) (hQ : PostS B O0 G s sc env V r Q) :
    WP B A (exec (.AugAssign (.Name x px) op v pos) env) Q E s := by
  unfold augD at h
  split at h
  · first | exact nsd h | exact nft h | exact ntf h | cases h
  rename_i hx
  split at h
  · first | exact nsd h | exact nft h | exact ntf h | cases h
  rename_i hcd
  split at h
  · first | exact nsd h | exact nft h | exact ntf h | cases h
  rename_i a ha
  split at h
  · first | exact nsd h | exact nft h | exact ntf h | cases h
  rename_i b hb
  split at h
  · first | exact nsd h | exact nft h | exact ntf h | cases h
  rename_i d hd
  cases h
  have ld : ∀ {Q : Value → Shared → Prop}, Post B G s a Q → WP B A (loadName env x) Q E s := fun hq => by
    rcases storable_iff hx with q | q
    · exact load_loc f.se (f.ow.kl x q) ha hq
    · exact load_cel f.se (by rw [(f.ow.cel x q).1]; rfl) ha (not_eq hcd) hq
  refine ⟨@wpAny_AugAssign_Name _ _ _ _ _ _ _ _ _ _ _ (ld fun ov G1 s1 k1 r1 => ((evE_ok nv n).1 sc Γ v b hb A G1 s1 env E _ rm f.kn (f.se.ke k1) fun w G2 s2 k2 r2 => ?_).w).w⟩
  refine (inpOp_ok ((f.st.ke k1).ke k2) (r1.ke (f.st.ke k1) k2) r2 hd fun nw G3 s3 k3 r3 => ?_).w
  have k := (k1.trans k2).trans k3
  exact ((f.ke k).stored hx r3 fun s4 t4 f4 => hQ .next G3 s4 ((Tr.ke f.st k).trans t4) f4 trivial).w
end
end Mine

end
section
open PySem PySem.W PyProof.Rows
set_option Elab.async false
namespace Mine

section
variable {B : Bs} {A : Around} {O0 : List Addr} {G G' G'' Gb : Gh} {s s' s'' sb : Shared} {sc : Kd} {env : Env} {V : List Addr} {Γ Γ' : Gm} {Ω Ω' : Om} {E : Value → Shared → Prop} {L : Nat} {X : Nv} {rec : Sv} {I : Addr}

theorem tuple_assign_ok (nv : NvOk B L X) (rm : Room L A) {n : Nat} {ts : List Expr} {k : Nat} {tp pos : Pos} {v : Expr} {d : D} {Γ2 : Gm} {Q : Flow → Shared → Prop} (f : Fm B O0 G s sc env V Γ Ω) (hv : isTup v = false)
    (h : evF (evE X n sc) Γ Ω v = some (d, Γ', Ω')) (hb : bindT sc (.Tuple ts k tp) d Γ' = some Γ2) (hQ : PostS B O0 G s sc env V (.nxt, Γ2, delT Ω' (.Tuple ts k tp)) Q) : WP B A (exec (.Assign [.Tuple ts k tp] v pos) env) Q E s := by
  have hs : swapsWith v (some (.Tuple ts k tp)) pos.line env = pure false := by cases v <;> rfl
  have hw : swappedStores [.Tuple ts k tp] v env = pure none := by cases v <;> first | exact ntf hv | rfl
  exact assign_plain hs hw rfl (eval_okS (evE_ok nv n).1 rm f h fun w G1 s1 t1 f1 r1 => fm_bind rm hb f1 r1 fun s2 t2 f2 => hQ .next G1 s2 (t1.trans t2) f2 trivial)

theorem RdL.reverse {G : Gh} {h : Heap} : ∀ {ds : List D} {vs : List Value}, RdL G h vs ds → RdL G h vs.reverse ds.reverse
  | [], _, r => r.nilK .nil
  | _ :: _, _, r => r.consK fun _ _ x y => by rw [List.reverse_cons, List.reverse_cons]; exact (RdL.reverse y).snoc x

/-- an owned thing by its name -/
theorem load_own {x : Str} {px : Pos} {a : Addr} {Γp : Gm} {Q : Value → Shared → Prop} (f : Fm B O0 G s sc env V Γ Ω) (sep : Sees B G s env Γp) (hp : look Γp x = some (.ref a)) (hx : storable sc x = true) (hdb : strEq x "__debug__" = false) (hq : Q (.ref a) s) : WP B A (eval (.Name x px) env) Q E s := by
  rcases storable_iff hx with q | q
  · obtain ⟨mm, hmm, hh⟩ := sep.ns
    obtain ⟨v, hv, r⟩ := hh x _ hp (f.ow.kl x q)
    obtain rfl := r.refI
    exact ⟨@wpAny_Name _ _ _ _ _ _ _ _ (@wpAny_loadName_local _ _ _ _ _ _ _ _ _ sep.kind (f.ow.kl x q) hmm hv hq) (not_eq hdb)⟩
  · have hk := (f.ow.cel x q).1
    obtain ⟨c, hc, _, _, hh⟩ := sep.cl x (by rw [hk]; rfl)
    obtain ⟨v, hv, r⟩ := hh _ hp
    obtain rfl := r.refI
    exact ⟨@wpAny_Name _ _ _ _ _ _ _ _ (@wpAny_loadName_cell _ _ _ _ _ _ _ _ _ sep.kind hk hc hv hq) (not_eq hdb)⟩
theorem interactive_no (f : Fm B O0 G s sc env V Γ Ω) : interactive env = false := by unfold interactive; rw [f.se.kind]; rfl
theorem appendD_inv {P : Prop} {ev : Gm → Expr → Option D} {x m : Str} {apos cpos : Pos} {e : Expr} {r : Rs} (h : appendD ev sc Γ Ω x m apos cpos e = some r)
    (k : m = "append" → strEq x "__debug__" = false → (apos.endLine == cpos.line) = true → isStar e = false → storable sc x = true → ∀ ds d, look Ω x = some (.lst ds) → ev Γ e = some d → ds.length ≤ 900 → (.nxt, Γ, putA Ω x (.lst (ds ++ [d]))) = r → P) : P := by
  unfold appendD at h
  split at h
  · exact nsd h
  · rename_i hm
    split at h
    · rename_i hdb _
      split at h
      · rename_i hline hstar hx
        split at h
        · rename_i hds
          split at h
          · exact nsd h
          · rename_i hd
            split at h
            · rename_i hlen
              exact k (strEq_iff.mp hm) hdb hline hstar hx _ _ hds hd (Nat.le_of_ble_eq_true hlen) (Option.some.inj h)
            · exact nsd h
        · exact nsd h
      · exact nsd h
    · exact nsd h
/-- one more on an owned list -/
theorem append_ok (nv : NvOk B L X) (rm : Room L A) {n : Nat} {x m : Str} {px apos cpos pos : Pos} {e : Expr} {r : Rs} {Q : Flow → Shared → Prop} (f : Fm B O0 G s sc env V Γ Ω)
    (h : appendD (evE X n sc) sc Γ Ω x m apos cpos e = some r) (hQ : PostS B O0 G s sc env V r Q) : WP B A (exec (.Expr (.Call (.Attribute (.Name x px) m apos) [e] [] cpos) pos) env) Q E s := by
  refine appendD_inv h fun hm hdb hline hstar hx ds d hds hd hlen hr => ?_
  subst hm
  subst hr
  have hi := interactive_no f
  rw [exec_Expr env _ _ hi rfl]
  refine WP.bind (WP.standAt (WP.bind ?_))
  -- the owned list's address
  obtain ⟨a, as, own, ⟨Γp, sep, hp⟩, turn⟩ := f.turn hds
  obtain ⟨od, _⟩ := turn G s (.refl f.st)
  obtain ⟨items, k, rfl, hl, rl⟩ := od.lstI
  rw [arm_eval_Call]
  refine WP.bind (load_own f sep hp hx hdb ?_)
  refine WP.bind (WP.standAt ?_)
  have hst : starEach [e] env = [(false, eval e env)] := star_plain hstar
  rw [hst]
  have hform : methodCallForm ([e].length + ([] : List Keyword).length) (backTo cpos [(false, eval e env)]) (backToKw cpos (keywordEach [] env)) = true := rfl
  unfold methodCall calleeOf
  rw [hform, if_pos rfl]
  refine WP.bind (WP.holding ⟨@getMethod_builtin _ _ _ _ _ _ _ _ _ _ (LstAt.is hl).typeIs F.plainAttrs_list slot_list_append (by rfl) (fun b hb => Value.ref.inj hb ▸ ⟨_, hl, rfl⟩) ?_⟩)
  rw [mpos_ok hline]
  refine WP.bind (WP.pure ?_)
  have heach : each (evE X n sc Γ) [e] = some [d] := by simp only [each, hstar, hd]
  have hsp := each_ok (env := env) (A := A) (E := E) (pos := cpos) (evE_ok nv n).1 rm f.kn heach f.se (Q := fun vs s' => (∃ G', St B G' s') ∧ WP B A (call (.builtin "list.append") ([.ref a] ++ vs)) (fun v s'' => WP B A (dropValue (.Call (.Attribute (.Name x px) "append" apos) [e] [] cpos) pos v) Q E s'') E s') fun vs G1 s1 k1 r1 => ?_
  · rw [hst] at hsp
    exact callWith_ok (.builtin _) rfl hsp
  · refine ⟨⟨G1, f.st.ke k1⟩, ?_⟩
    obtain ⟨vv, rfl, rv⟩ := r1.one
    obtain ⟨od1, turn1⟩ := turn G1 s1 k1
    obtain ⟨items1, k1', _, hl1, rl1⟩ := od1.lstI
    have hasz : items1.size ≤ sizeLine := by rw [rl1.size, sizeLine_eq]; exact Nat.le_trans hlen (by decide)
    have hO1 : a ∈ G1.O := by rw [k1.o]; exact (own a List.mem_cons_self).1
    have ht : a ∉ B.tb := fun q => (own a List.mem_cons_self).2.1 (f.tb a q)
    refine ⟨@wpAny_list_append_plain _ _ _ _ _ _ _ _ _ ⟨_, hl1⟩ (fun h' hp' hs' => ?_) hasz⟩
    obtain ⟨n', hp'⟩ := hp'
    have st1 := f.st.ke k1
    have kw : Kw B [a] G1 s1 G1 { s1 with heap := h' } := Kw.same1 st1 (List.mem_singleton.mpr rfl) ht hs' (Nat.le_refl _) hl1.nc
    have up := kw.up st1 (fun b hb => by rw [List.mem_singleton.mp hb]; exact hO1)
    obtain ⟨t2, f2⟩ := turn1 _ (.lst (ds ++ [d])) kw (.lst hp' (by rw [Array.toList_push]; exact (rl1.up up).snoc (rv.up up)))
    exact WP.pure (hQ .next G1 _ t2 f2 trivial)

/-- a call whose answer is let go -/
theorem drop_ok (nv : NvOk B L X) (rm : Room L A) {n : Nat} {g : Expr} {args : List Expr} {k : Keyword} {ks : List Keyword} {cpos pos : Pos} {r : Rs} {Q : Flow → Shared → Prop} (f : Fm B O0 G s sc env V Γ Ω)
    (h : dropD (evE X n sc) Γ Ω (.Call g args (k :: ks) cpos) = some r) (hQ : PostS B O0 G s sc env V r Q) : WP B A (exec (.Expr (.Call g args (k :: ks) cpos) pos) env) Q E s := by
  unfold dropD at h
  split at h
  · first | exact nsd h | exact nft h | exact ntf h | cases h
  rename_i d Γ1 Ω1 h1
  split at h
  · rename_i hp
    cases h
    have hi : interactive env = false := by unfold interactive; rw [f.se.kind]; rfl
    rw [exec_Expr env _ _ hi rfl]
    refine WP.bind (WP.standAt (WP.bind (eval_okS (evE_ok nv n).1 rm f h1 fun v G1 s1 t1 f1 r1 => ?_)))
    have hd : dropValue (.Call g args (k :: ks) cpos) pos v = pure .next := by
      unfold plainD at hp
      split at hp
      · exact r1.noneK rfl
      · exact r1.boolK rfl
      · exact r1.intK fun _ => rfl
      · exact r1.fltK fun _ _ _ _ => rfl
      · exact r1.strK fun _ => rfl
      · exact nft hp
    rw [hd]
    exact WP.pure (hQ .next G1 s1 t1 f1 trivial)
  · first | exact nsd h | exact nft h | exact ntf h | cases h
end
end Mine

end
section
open PySem PySem.W PyProof.Rows
set_option Elab.async false
namespace Mine

section
variable {B : Bs} {L : Nat} {X : Nv} {rec : Sv} {H : Hk}

theorem isLst_some {e : Expr} (h : isLst e = true) : ∃ es p, e = .List es p := by cases e <;> first | exact nft h | exact ⟨_, _, rfl⟩
section
variable {A : Around} {O0 : List Addr} {G : Gh} {s : Shared} {sc : Kd} {env : Env} {V : List Addr} {Γ : Gm} {Ω : Om} {E : Value → Shared → Prop} {m : Nat} {r : Rs} {Q : Flow → Shared → Prop}
theorem asg_name (nv : NvOk B L X) (rm : Room L A) (f : Fm B O0 G s sc env V Γ Ω) (hQ : PostS B O0 G s sc env V r Q) {x : Str} {px pos : Pos} {v : Expr} (h : assignD (evE X m) sc Γ Ω (.Name x px) v = some r) : WP B A (exec (.Assign [.Name x px] v pos) env) Q E s := by
  unfold assignD at h; dsimp only at h
  split at h
  · exact nsd h
  · rename_i hx
    split at h
    · rename_i hl
      obtain ⟨es, p, rfl⟩ := isLst_some hl
      split at h
      · rename_i h1
        exact own_ok nv rm f hx h1 (Option.some.inj h ▸ hQ)
      · exact nsd h
    · split at h
      · rename_i h1
        exact name_assign_ok nv rm f hx h1 (Option.some.inj h ▸ hQ)
      · exact nsd h
theorem asg_tup (nv : NvOk B L X) (rm : Room L A) (f : Fm B O0 G s sc env V Γ Ω) (hQ : PostS B O0 G s sc env V r Q) {ts : List Expr} {k : Nat} {tp pos : Pos} {v : Expr} (ht : isTup v = false) (h : tupD (evE X m) sc Γ Ω (.Tuple ts k tp) v = some r) : WP B A (exec (.Assign [.Tuple ts k tp] v pos) env) Q E s := by
  unfold tupD at h
  split at h
  · rename_i h1
    split at h
    · rename_i hb
      exact tuple_assign_ok nv rm f ht h1 hb (Option.some.inj h ▸ hQ)
    · exact nsd h
  · exact nsd h
theorem isTup_or (v : Expr) : (∃ vs k p, v = .Tuple vs k p) ∨ isTup v = false := by cases v <;> first | exact .inr rfl | exact .inl ⟨_, _, _, rfl⟩
theorem asg_any (nv : NvOk B L X) (rm : Room L A) (f : Fm B O0 G s sc env V Γ Ω) (hQ : PostS B O0 G s sc env V r Q) {t v : Expr} {pos : Pos} (h : assignD (evE X m) sc Γ Ω t v = some r) : WP B A (exec (.Assign [t] v pos) env) Q E s := by
  cases t <;> first | exact nsd h | skip
  case Name x px => exact asg_name nv rm f hQ h
  case Tuple ts k tp =>
    rcases isTup_or v with ⟨vs, k', vp, rfl⟩ | ht
    · exact nsd h
    · refine asg_tup (m := m) nv rm f hQ ht ?_
      unfold assignD at h; dsimp only at h; rw [ht] at h; exact h
theorem expr_any (nv : NvOk B L X) (rm : Room L A) (f : Fm B O0 G s sc env V Γ Ω) (hQ : PostS B O0 G s sc env V r Q) {e : Expr} {pos : Pos} (h : exprD (evE X m) sc Γ Ω e = some r) : WP B A (exec (.Expr e pos) env) Q E s := by
  cases e <;> first | exact nsd h | skip
  case Call g args kws cpos =>
    cases kws with
    | cons => exact drop_ok nv rm f h hQ
    | nil =>
      cases g <;> first | exact nsd h | skip
      case Attribute o mm apos =>
        unfold exprD at h; dsimp only at h
        split at h
        · rename_i x hx
          obtain ⟨p, rfl⟩ := nameOf_some hx
          split at h
          · exact append_ok nv rm f h hQ
          · exact nsd h
        · exact nsd h
theorem evB_ok (nv : NvOk B L X) (ok : OkS B L rec) (m k : Nat) (rm : Room L A) (f : Fm B O0 G s sc env V Γ Ω) (hQ : PostS B O0 G s sc env V r Q) {st : Stmt} (h : evB (evE X m) k rec sc Γ Ω st = some r) : WP B A (exec st env) Q E s := by
  have okE := (evE_ok nv m).1
  have okT := (evE_ok nv m).2
  cases st <;> first | exact nsd h | skip
  case Return e pos =>
    cases e with
    | none => exact ⟨@wpAny_Return_none _ _ _ _ _ _ _ ((Option.some.inj h ▸ hQ : PostS B O0 G s sc env V (.ret .none, Γ, Ω) Q) _ G s (.refl f.st) f .none)⟩
    | some e =>
      unfold evB at h; dsimp only at h
      split at h
      · exact nsd h
      · rename_i d Γ1 Ω1 h1
        rw [← Option.some.inj h] at hQ
        exact ⟨@wpAny_Return_some _ _ _ _ _ _ _ _ (eval_okS okE rm f h1 fun v G1 s1 t1 f1 r1 => hQ (.ret v) G1 s1 t1 f1 r1).w⟩
  case Assign ts v pos =>
    cases ts with
    | nil => exact nsd h
    | cons t rest => cases rest with
      | nil => exact asg_any nv rm f hQ h
      | cons => exact nsd h
  case AugAssign t op v pos =>
    cases t <;> first | exact nsd h | exact aug_ok nv rm f h hQ
  case For t i b o pos =>
    unfold evB at h; dsimp only at h
    split at h
    · rename_i hset
      split at h
      · exact nsd h
      · rename_i h1
        split at h
        · exact nsd h
        · rename_i hxs
          exact for_ok ok okE rm f hset h1 hxs h hQ
    · exact nsd h
  case If t b o pos =>
    unfold evB at h; dsimp only at h
    split at h
    · exact nsd h
    · rename_i c Γ1 Ω1 h1
      refine if_ok ok okT rm f h1 ?_ hQ
      cases c <;> exact h
  case Expr e pos => exact expr_any nv rm f hQ h
  case Pass pos =>
    rw [← Option.some.inj h] at hQ
    exact ⟨@wpAny_Pass _ _ _ _ _ _ _ (hQ .next G s (.refl f.st) f trivial)⟩
end
theorem evS1_ok (nv : NvOk B L X) (hk : OkS B L H.S) (ok : OkS B L rec) (m k : Nat) : OkS B L (evS1 H (evE X m) k rec) := by
  intro sc Γ Ω st r h A O0 G s env V E Q rm f hQ
  unfold evS1 at h
  split at h
  · rename_i r' hr
    exact hk sc Γ Ω st _ (hr.trans h) A O0 G s env V E Q rm f hQ
  · exact evB_ok nv ok m k rm f hQ h

theorem evS_ok (nv : NvOk B L X) (hk : OkS B L H.S) (m k : Nat) : ∀ n, OkS B L (evS H (evE X m) k n)
  | 0 => fun _ _ _ _ _ h => nomatch h
  | n + 1 => evS1_ok nv hk (evS_ok nv hk m k n) m k
end

/-- no statement of its own kind -/
noncomputable def noHk : Hk := ⟨fun _ _ _ _ => none⟩
theorem noHk_ok {B : Bs} {L : Nat} : OkS B L noHk.S := fun _ _ _ _ _ h => nomatch h
end Mine

end
section
open PySem PySem.W PyProof.Rows
set_option Elab.async false
namespace Mine

/-- a function of the module -/
structure Fn where
  ps : List Str
  body : List Stmt
  scope : Scope

noncomputable def noFree : Kd → Bool
  | [] => true
  | (_, k) :: r => match k with
    | .free => false
    | _ => noFree r
theorem noFree_mem : ∀ {names : Kd} {x : Str}, noFree names = true → (x, NameKind.free) ∉ names
  | (y, k) :: r, x, h, hm => by
    unfold noFree at h
    split at h
    · first | exact nsd h | exact nft h | exact ntf h | cases h
    rename_i hk
    rcases List.mem_cons.mp hm with q | q
    · cases q; exact hk rfl
    · exact noFree_mem h q
noncomputable def fnOk (F : Fn) : Bool := (F.scope.kind == .function) && once F.scope.names && noFree F.scope.names && F.ps.all (storable F.scope.names) && !F.scope.isCoroutine && !F.scope.isGenerator

inductive FnCode (B : Bs) (fd : FuncData) : Prop
  | mk (c : Addr) (oc : Obj) (vs : Array Value) (t : Tok) (h1 : fd.code = .ref c) (h2 : B.h0.get? c = some oc) (h3 : c ∉ B.tb) (h4 : oc.data = .fields vs) (h5 : vs[1]? = some (.str fd.qualname t)) : FnCode B fd
inductive FnIs (B : Bs) (a : Addr) (F : Fn) : Prop
  | mk (o : Obj) (fd : FuncData) (h1 : B.h0.get? a = some o) (h2 : a ∉ B.tb) (h3 : o.data = .func fd) (h4 : fd.scope = F.scope) (h5 : fd.body = .stmts F.body) (h6 : fd.globals = mainGlobals) (h7 : fd.builtins = builtinsNs) (h8 : fd.closure = [])
    (h9 : FnCode B fd) (h10 : ∀ vs : List Value, vs.length = F.ps.length → bindArgs fd ⟨vs, []⟩ = pure (F.ps.zip vs)) : FnIs B a F
structure FnAt (B : Bs) (a : Addr) (F : Fn) : Prop where
  ok : fnOk F = true
  ob : FnIs B a F

/-- what a function gives back -/
noncomputable def runF (rec : Sv) (F : Fn) (ds : List D) : Option D := match ds.length == F.ps.length with
  | false => none
  | true => match evSs rec F.scope.names F.body (bindPs [] F.ps ds) [] with
    | some (.ret d, _, _) => some d
    | some (.nxt, _, _) => some .none
    | _ => none

section
variable {B : Bs} {L : Nat} {rec : Sv}

theorem fn_ok {a : Addr} {F : Fn} {ds : List D} {d : D} (fa : FnAt B a F) (ok : OkS B L rec) (h : runF rec F ds = some d) : OkCall B (L + 1) (.ref a) ds d := by
  intro A G s vs E Q rm st r hQ
  unfold runF at h
  split at h
  · first | exact nsd h | exact nft h | exact ntf h | cases h
  rename_i hlen
  have hlen : ds.length = F.ps.length := beq_iff_eq.mp hlen
  have hvl : vs.length = F.ps.length := r.length.trans hlen
  obtain ⟨o, fd, ho, hat, hdata, hscope, hbody, hglob, hblt, hclo, ⟨c, oc, cvs, ct, hcode, hoc, hct, hcd, hcq⟩, hbind⟩ := fa.ob
  have hok := fa.ok
  simp only [fnOk, Bool.and_eq_true, beq_iff_eq, Bool.not_eq_true'] at hok
  obtain ⟨⟨⟨⟨⟨hkind, honce⟩, hnf⟩, hst⟩, hco⟩, hgen⟩ := hok
  refine ⟨@wpAny_call _ _ _ _ _ _ _ _ (@codeAny_call_function _ _ _ _ _ _ _ _ _ _ rm.depth (st.kp a o hat ho) hdata (by rw [hscope]; exact hco) (by rw [hscope]; exact hgen) hbody ⟨c, oc, cvs, ct, hcode, st.kp c oc hct hoc, hcd, hcq⟩ ?_)⟩
  rw [hbind vs hvl, hclo, hglob, hscope, hblt]
  refine @wpAny_pure _ _ _ _ _ _ _ ?_
  have hmap1 : (F.ps.zip vs).map (·.1) = F.ps := List.map_fst_zip (by rw [hvl]; exact Nat.le_refl _)
  have hmap2 : (F.ps.zip vs).map (·.2) = vs := List.map_snd_zip (by rw [hvl]; exact Nat.le_refl _)
  have clo : Clo B G s F.scope.names [] [] := ⟨fun _ _ h => (nomatch h), fun _ _ h => (nomatch h), fun x hx => absurd hx (noFree_mem hnf), fun _ _ h => (nomatch h)⟩
  refine (enter_ok (Γ := []) (ds := ds) (around := none) (builtins := builtinsNs) hkind honce st clo (fun p hp => ?_) (by rw [hmap2]; exact r) rfl fun env G1 s1 henv kx hG1 se ow hW => ?_).w
  · exact List.all_eq_true.mp hst p.1 (List.of_mem_zip hp).1
  rw [hmap1] at se
  have hcells : env.cells = cellsFrom (s.heap.objs.size + 1) F.scope.names [] := by rw [henv, newEnv_cells]
  have hsc : env.scope = F.scope := by rw [henv, newEnv_scope]
  refine ⟨se.st.lim, @codeAny_func _ _ _ _ _ _ _ ?_⟩
  have hO : ∀ b, b ∈ G1.O ↔ b ∈ newW s F.scope.names ∨ b ∈ G.O := fun b => by rw [hG1]; exact List.mem_append
  have fm : Fm B G.O G1 s1 F.scope.names env (newW s F.scope.names) (bindPs [] F.ps ds) [] := by
    refine ⟨fun b hb q => Nat.not_lt.mpr (hW b hb).1 (st.lt b q), fun b hb => (hO b).mpr (.inr hb), st.sub, fun b hb hn => ((hO b).mp hb).elim (ow.new b) fun q => absurd q hn, ow, fun x => ?_, fun y cc hy => ?_, _, fun _ => 0, fun _ => [], se, fun _ _ h => h, fun _ _ h => (nomatch h), fun _ _ _ _ h => (nomatch h)⟩
    · unfold Env.kindOf; rw [hsc, look_eq]
    · rw [hcells] at hy
      exact (hW cc (List.mem_cons_of_mem _ (lookup_mem hy))).2
  have fin : ∀ G2 s2 Γ2 Ω2 v d', Tr B G.O G1 s1 G2 s2 → Fm B G.O G2 s2 F.scope.names env (newW s F.scope.names) Γ2 Ω2 → Rd G2 s2.heap v d' → d' = d → Q v s2 := fun G2 s2 Γ2 Ω2 v d' t2 f2 rv hd => by
    subst hd
    have kx2 : Kx B [] G s G2 s2 := kx.trans t2.kx fun b hb => by
      obtain ⟨h1, h2⟩ := mem_Wn.mp hb
      exact .inr ((hO b).mp h1 |>.elim (fun q => (hW b q).1) fun q => absurd q h2)
    exact hQ v { G2 with O := G.O } s2 kx2.kw (rv.up (Up.free f2.oo))
  split at h
  · rename_i d' Γ2 Ω2 he
    cases h
    refine (ss_ok ok (rm.deeper env) he fm fun f G2 s2 t2 f2 hfl => ?_).w
    cases f <;> first | exact False.elim hfl | skip
    exact fin G2 s2 _ _ _ _ t2 f2 hfl rfl
  · rename_i Γ2 Ω2 he
    cases h
    refine (ss_ok ok (rm.deeper env) he fm fun f G2 s2 t2 f2 hfl => ?_).w
    cases f <;> first | exact False.elim hfl | skip
    exact fin G2 s2 _ _ _ _ t2 f2 .none rfl
  · first | exact nsd h | exact nft h | exact ntf h | cases h

theorem FnAt.keep {a : Addr} {F : Fn} (fa : FnAt B a F) : KeepOk B (.ref a) := by
  obtain ⟨o, fd, ho, hat, hdata, _, _, _, _, _, _, _⟩ := fa.ob
  exact .func ho hat hdata

theorem OkCall.more {f : Value} {ds : List D} {d : D} {L L' : Nat} (h : OkCall B L f ds d) (hL : L ≤ L') : OkCall B L' f ds d := fun A G s vs E Q rm st r hQ => h A G s vs E Q (rm.less hL) st r hQ
theorem NvOk.more {X : Nv} {L L' : Nat} (h : NvOk B L X) (hL : L ≤ L') : NvOk B L' X :=
  ⟨fun x ds d e => let ⟨v, h1, h2, h3⟩ := h.n x ds d e; ⟨v, h1, h2, h3.more hL⟩, h.k, fun x d ds r e => let ⟨f, h1, h2, h3⟩ := h.m x d ds r e; ⟨f, h1, h2, h3.more hL⟩, h.p, h.t, h.a,
    fun m d ds kn kd r e => let ⟨fa, o, fd, h1, h2, h3, h4, h5⟩ := h.kw m d ds kn kd r e; ⟨fa, o, fd, h1, h2, h3, h4, fun A G s vs kv E Q rm => h5 A G s vs kv E Q (rm.less hL)⟩⟩

/-- functions of the module over what is known already: by their table -/
noncomputable def addF (X : Nv) (tab : List (Str × Fn)) (H : Hk) (m k n : Nat) : Nv := { X with N := fun x ds => match X.N x ds with
  | some d => some d
  | none => match look tab x with
    | none => none
    | some F => runF (evS H (evE X m) k n) F ds }
theorem addF_ok {X : Nv} {tab : List (Str × Fn)} {H : Hk} {m k n : Nat} (nv : NvOk B L X) (hk : OkS B L H.S) (ht : ∀ x F, look tab x = some F → ∃ a, B.mg x = some (.ref a) ∧ FnAt B a F) : NvOk B (L + 1) (addF X tab H m k n) := by
  have nv' := nv.more (Nat.le_succ L)
  refine ⟨fun x ds d h => ?_, nv.k, nv'.m, nv.p, nv.t, nv.a, nv'.kw⟩
  simp only [addF] at h
  split at h
  · rename_i d' hd
    cases h
    exact nv'.n x ds d hd
  · split at h
    · first | exact nsd h | exact nft h | exact ntf h | cases h
    rename_i F hF
    obtain ⟨a, ha, fa⟩ := ht x F hF
    exact ⟨.ref a, ha, fa.keep, fn_ok fa (evS_ok nv hk m k n) h⟩
end
end Mine

end
section
open PySem PySem.W PyProof.Rows
set_option Elab.async false
namespace Mine

/-- a function object as it lies -/
inductive CodeIs (h : Heap) (fd : FuncData) : Prop
  | mk (c : Addr) (oc : Obj) (vs : Array Value) (t : Tok) (h1 : fd.code = .ref c) (h2 : h.get? c = some oc) (h3 : oc.cls = .type "code") (h4 : oc.data = .fields vs) (h5 : vs[1]? = some (.str fd.qualname t)) : CodeIs h fd
structure FcAt (B : Bs) (h : Heap) (a : Addr) (body : List Stmt) (scope : Scope) (cl : List (Str × Addr)) (fd : FuncData) : Prop where
  nt : a ∉ B.tb
  ob : ∃ o, h.get? a = some o ∧ o.data = .func fd
  sc : fd.scope = scope
  bd : fd.body = .stmts body
  gl : fd.globals = mainGlobals
  bl : fd.builtins = builtinsNs
  cl : fd.closure = cl
  cd : CodeIs h fd

theorem FcAt.kw {B : Bs} {W : List Addr} {G G' : Gh} {s s' : Shared} {a : Addr} {body : List Stmt} {scope : Scope} {cl : List (Str × Addr)} {fd : FuncData} (f : FcAt B s.heap a body scope cl fd) (k : Kw B W G s G' s') (ha : a ∉ W) : FcAt B s'.heap a body scope cl fd := by
  obtain ⟨o, ho, hd⟩ := f.ob
  obtain ⟨c, oc, vs, t, h1, h2, h3, h4, h5⟩ := f.cd
  exact ⟨f.nt, ⟨o, k.kp a o (fun q => (List.mem_append.mp q).elim ha f.nt) ho, hd⟩, f.sc, f.bd, f.gl, f.bl, f.cl, c, oc, vs, t, h1, k.cd c oc vs h2 h3 h4, h3, h4, h5⟩
theorem FcAt.ke {B : Bs} {G G' : Gh} {s s' : Shared} {a : Addr} {body : List Stmt} {scope : Scope} {cl : List (Str × Addr)} {fd : FuncData} (f : FcAt B s.heap a body scope cl fd) (k : Ke B G s G' s') : FcAt B s'.heap a body scope cl fd := f.kw k fun h => nomatch h

theorem Clo.kx {B : Bs} {W : List Addr} {G G' : Gh} {s s' : Shared} {names : Kd} {cl : List (Str × Addr)} {Γ : Gm} (c : Clo B G s names cl Γ) (k : Kx B W G s G' s') (st : St B G s) (hW : ∀ a ∈ W, a ∈ G.O) (hc : ∀ x c, cl.lookup x = some c → c ∉ W) : Clo B G' s' names cl Γ := by
  have up := k.up st hW
  refine ⟨fun x a h => Nat.lt_of_lt_of_le (c.old x a h) k.sz, c.nt, fun x hx => ?_, c.only⟩
  obtain ⟨a, ha, hd⟩ := c.has x hx
  refine ⟨a, ha, fun d hxd => ?_⟩
  obtain ⟨v, hv, r⟩ := hd d hxd
  exact ⟨v, k.kw.kp.cell (fun q => (List.mem_append.mp q).elim (hc x a ha) (c.nt x a ha)) hv, r.up up⟩
theorem Clo.kw {B : Bs} {W : List Addr} {G G' : Gh} {s s' : Shared} {names : Kd} {cl : List (Str × Addr)} {Γ : Gm} (c : Clo B G s names cl Γ) (k : Kw B W G s G' s') (st : St B G s) (hW : ∀ a ∈ W, a ∈ G.O) (hc : ∀ x c, cl.lookup x = some c → c ∉ W) : Clo B G' s' names cl Γ :=
  c.kx (.of_kw st k) st hW hc
theorem Clo.ke {B : Bs} {G G' : Gh} {s s' : Shared} {names : Kd} {cl : List (Str × Addr)} {Γ : Gm} (c : Clo B G s names cl Γ) (k : Ke B G s G' s') (st : St B G s) : Clo B G' s' names cl Γ :=
  c.kw k st (fun _ h => nomatch h) fun _ _ _ h => nomatch h

noncomputable def scOk (scope : Scope) : Bool := (scope.kind == .function) && once scope.names && !scope.isCoroutine && !scope.isGenerator

theorem newEnv_code (scope : Scope) (L g : Addr) (cells : List (Str × Addr)) (q : Str) (f : Option Addr) (c : Value) (b : Addr) : (newEnv scope L g cells q f c none b).code = c := rfl
theorem newEnv_qual (scope : Scope) (L g : Addr) (cells : List (Str × Addr)) (q : Str) (f : Option Addr) (c : Value) (b : Addr) : (newEnv scope L g cells q f c none b).qual = q := rfl

section
variable {B : Bs} {A : Around} {G : Gh} {s : Shared} {E : Value → Shared → Prop} {m : Nat}

/-- a call's body, in its new frame -/
theorem enter_cp {a : Addr} {body : List Stmt} {scope : Scope} {cl : List (Str × Addr)} {fd : FuncData} {Γ0 : Gm} {pos : List Value} {kw : List (Str × Value)} {binds : List (Str × Value)} {ds : List D} {R : Result → Shared → Prop}
    (fc : FcAt B s.heap a body scope cl fd) (hok : scOk scope = true) (hbind : ∀ (A' : Around) (E' : Value → Shared → Prop) (Qb : List (Str × Value) → Shared → Prop), Qb binds s → wpAny B.M A' (bindArgs fd ⟨pos, kw⟩) Qb E' s) (hst : ∀ p ∈ binds, storable scope.names p.1 = true) (st : St B G s) (clo : Clo B G s scope.names cl Γ0)
    (r : RdL G s.heap (binds.map (·.2)) ds) (rm : Room (m + 1) A)
    (h : ∀ env G1 s1 V Q1 E1, Fm B G.O G1 s1 scope.names env V (bindPs Γ0 (binds.map (·.1)) ds) [] → Kx B [] G s G1 s1 → (∀ b, b ∈ G1.O ↔ b ∈ V ∨ b ∈ G.O) → (∀ b ∈ V, s.heap.objs.size ≤ b) → env.code = fd.code → env.qual = fd.qualname ++ ".<locals>." →
      (∀ y c, env.cells.lookup y = some c → c ∈ V ∨ cl.lookup y = some c) → (∀ v s', R (.ok (.ret v)) s' → Q1 (.ret v) s') → (∀ s', R (.ok (.ret .none)) s' → Q1 .next s') → Room m (A.deeper env) → WP B (A.deeper env) (execs body env) Q1 E1 s1) :
    codeAny B.M A (.call (.ref a) ⟨pos, kw⟩) R s := by
  obtain ⟨o, ho, hdata⟩ := fc.ob
  obtain ⟨c, oc, cvs, ct, hcode, hoc, hcc, hcd, hcq⟩ := fc.cd
  simp only [scOk, Bool.and_eq_true, beq_iff_eq, Bool.not_eq_true'] at hok
  obtain ⟨⟨⟨hkind, honce⟩, hco⟩, hgen⟩ := hok
  refine @codeAny_call_function _ _ _ _ _ _ _ _ _ _ rm.depth ho hdata (by rw [fc.sc]; exact hco) (by rw [fc.sc]; exact hgen) fc.bd ⟨c, oc, cvs, ct, hcode, hoc, hcd, hcq⟩ ?_
  rw [fc.cl, fc.gl, fc.sc, fc.bl]
  refine hbind _ _ _ ?_
  refine (enter_ok (Γ := Γ0) (ds := ds) (around := none) (builtins := builtinsNs) hkind honce st clo hst r rfl fun env G1 s1 henv kx hG1 se ow hW => ?_).w
  have hcells : env.cells = cellsFrom (s.heap.objs.size + 1) scope.names cl := by rw [henv, newEnv_cells]
  have hlook : ∀ y c, env.cells.lookup y = some c → c ∈ newW s scope.names ∨ cl.lookup y = some c := fun y c hy => by
    rw [hcells, cellsFrom_acc, List.lookup_append] at hy
    cases hz : (cellsFrom (s.heap.objs.size + 1) scope.names []).lookup y with
    | some z => rw [hz] at hy; cases hy; exact .inl (List.mem_cons_of_mem _ (lookup_mem hz))
    | none => rw [hz] at hy; exact .inr (by simpa using hy)
  have hsc : env.scope = scope := by rw [henv, newEnv_scope]
  refine ⟨se.st.lim, @codeAny_func _ _ _ _ _ _ _ ?_⟩
  have hO : ∀ b, b ∈ G1.O ↔ b ∈ newW s scope.names ∨ b ∈ G.O := fun b => by rw [hG1]; exact List.mem_append
  have fm : Fm B G.O G1 s1 scope.names env (newW s scope.names) (bindPs Γ0 (binds.map (·.1)) ds) [] := by
    refine ⟨fun b hb q => Nat.not_lt.mpr (hW b hb).1 (st.lt b q), fun b hb => (hO b).mpr (.inr hb), st.sub, fun b hb hn => ((hO b).mp hb).elim (ow.new b) fun q => absurd q hn, ow, fun x => ?_, fun y cc hy => ?_, _, fun _ => 0, fun _ => [], se, fun _ _ h => h, fun _ _ h => (nomatch h), fun _ _ _ _ h => (nomatch h)⟩
    · unfold Env.kindOf; rw [hsc, look_eq]
    · rw [hcells, cellsFrom_acc] at hy
      rcases List.mem_append.mp (mem_of_lookup hy) with q | q
      · exact (hW cc (List.mem_cons_of_mem _ (List.mem_map.mpr ⟨_, q, rfl⟩))).2
      · exact Nat.lt_of_lt_of_le (clo.old y cc q) kx.sz
  exact (h env G1 s1 (newW s scope.names) _ _ fm kx hO (fun b hb => (hW b hb).1) (by rw [henv]; rfl) (by rw [henv]; rfl) hlook (fun _ _ q => q) (fun _ q => q) (rm.deeper env)).w

theorem enter_fb {a : Addr} {body : List Stmt} {scope : Scope} {cl : List (Str × Addr)} {fd : FuncData} {Γ0 : Gm} {pos : List Value} {kw : List (Str × Value)} {binds : List (Str × Value)} {ds : List D} {Q : Value → Shared → Prop}
    (fc : FcAt B s.heap a body scope cl fd) (hok : scOk scope = true) (hbind : ∀ (A' : Around) (E' : Value → Shared → Prop) (Qb : List (Str × Value) → Shared → Prop), Qb binds s → wpAny B.M A' (bindArgs fd ⟨pos, kw⟩) Qb E' s) (hst : ∀ p ∈ binds, storable scope.names p.1 = true) (st : St B G s) (clo : Clo B G s scope.names cl Γ0)
    (r : RdL G s.heap (binds.map (·.2)) ds) (rm : Room (m + 1) A)
    (h : ∀ env G1 s1 V Q1 E1, Fm B G.O G1 s1 scope.names env V (bindPs Γ0 (binds.map (·.1)) ds) [] → Kx B [] G s G1 s1 → (∀ b, b ∈ G1.O ↔ b ∈ V ∨ b ∈ G.O) → (∀ b ∈ V, s.heap.objs.size ≤ b) → env.code = fd.code → env.qual = fd.qualname ++ ".<locals>." →
      (∀ y c, env.cells.lookup y = some c → c ∈ V ∨ cl.lookup y = some c) → (∀ v s', Q v s' → Q1 (.ret v) s') → (∀ s', Q .none s' → Q1 .next s') → Room m (A.deeper env) → WP B (A.deeper env) (execs body env) Q1 E1 s1) :
    WP B A (call (.ref a) pos kw) Q E s :=
  ⟨@wpAny_call _ _ _ _ _ _ _ _ (enter_cp fc hok hbind hst st clo r rm h)⟩
theorem enter_fc {a : Addr} {body : List Stmt} {scope : Scope} {cl : List (Str × Addr)} {fd : FuncData} {Γ0 : Gm} {pos : List Value} {kw : List (Str × Value)} {binds : List (Str × Value)} {ds : List D} {Q : Value → Shared → Prop}
    (fc : FcAt B s.heap a body scope cl fd) (hok : scOk scope = true) (hbind : bindArgs fd ⟨pos, kw⟩ = pure binds) (hst : ∀ p ∈ binds, storable scope.names p.1 = true) (st : St B G s) (clo : Clo B G s scope.names cl Γ0)
    (r : RdL G s.heap (binds.map (·.2)) ds) (rm : Room (m + 1) A)
    (h : ∀ env G1 s1 V Q1 E1, Fm B G.O G1 s1 scope.names env V (bindPs Γ0 (binds.map (·.1)) ds) [] → Kx B [] G s G1 s1 → (∀ b, b ∈ G1.O ↔ b ∈ V ∨ b ∈ G.O) → (∀ b ∈ V, s.heap.objs.size ≤ b) → env.code = fd.code → env.qual = fd.qualname ++ ".<locals>." →
      (∀ y c, env.cells.lookup y = some c → c ∈ V ∨ cl.lookup y = some c) → (∀ v s', Q v s' → Q1 (.ret v) s') → (∀ s', Q .none s' → Q1 .next s') → Room m (A.deeper env) → WP B (A.deeper env) (execs body env) Q1 E1 s1) :
    WP B A (call (.ref a) pos kw) Q E s :=
  enter_fb fc hok (fun A' E' Qb hq => by rw [hbind]; exact @wpAny_pure _ _ _ _ _ _ _ hq) hst st clo r rm h

/-- what a caller sees of a frame that ended -/
theorem leave_fc {G1 G2 : Gh} {s1 s2 : Shared} {W V : List Addr} (hO : ∀ b, b ∈ G1.O ↔ b ∈ V ∨ b ∈ G.O) (hV : ∀ b ∈ V, s.heap.objs.size ≤ b) (kx : Kx B [] G s G1 s1) (k : Kx B W G1 s1 G2 s2) (hW : ∀ b ∈ W, b ∈ V ∨ b ∈ G.O → s.heap.objs.size ≤ b) (hW2 : ∀ b ∈ W, b ∈ V ∨ b ∈ G.O) :
    Ke B G s { G2 with O := G.O } s2 :=
  (kx.trans k fun b hb => .inr (hW b hb (hW2 b hb))).kw

theorem Fm.ke_of {V : List Addr} {G1 G2 : Gh} {s1 s2 : Shared} (hO : ∀ b, b ∈ G1.O ↔ b ∈ V ∨ b ∈ G.O) (hV : ∀ b ∈ V, s.heap.objs.size ≤ b) (kx : Kx B [] G s G1 s1) (t : Tr B G.O G1 s1 G2 s2) : Ke B G s { G2 with O := G.O } s2 :=
  (kx.trans t.kx fun b hb => by
    obtain ⟨h1, h2⟩ := mem_Wn.mp hb
    exact .inr (((hO b).mp h1).elim (hV b) fun q => absurd q h2)).kw

/-- a function object's keeper -/
noncomputable def IsFn (h : Heap) (a : Addr) : Prop := ∃ o fd, h.get? a = some o ∧ o.data = .func fd
theorem FcAt.isFn {h : Heap} {a : Addr} {body : List Stmt} {scope : Scope} {cl : List (Str × Addr)} {fd : FuncData} (f : FcAt B h a body scope cl fd) : IsFn h a := let ⟨o, h1, h2⟩ := f.ob; ⟨o, fd, h1, h2⟩

theorem callWith_fn {a : Addr} {first : List Value} {args : List (Bool × Sem Value)} {pos : Pos} {Q : Value → Shared → Prop} (hp : args.any (·.1) = false)
    (h : WP B A (spliced args) (fun vs s' => IsFn s'.heap a ∧ WP B A (call (.ref a) (first ++ vs)) Q E s') E s) : WP B A (callWith pos (.ref a) first args []) Q E s := by
  unfold callWith
  refine WP.bind (WP.holding (evalArgs_of hp (h.post fun vs s1 h1 => WP.bind (WP.standAt ?_))))
  obtain ⟨⟨o, fd, ho, hd⟩, h1⟩ := h1
  have tail : ∀ {t : Sem Value}, WP B A t Q E s1 → WP B A (t >>= fun r => holding [r] point >>= fun _ => pure r) Q E s1 :=
    fun ht => WP.bind (ht.post fun r s2 hr => WP.bind (WP.holding (WP.point (WP.pure hr))))
  rw [hp]
  simp only [List.any_nil, Bool.or_false]
  refine WP.bind ?_
  unfold keeperOf
  refine WP.bind ⟨@wpAny_load _ _ _ _ _ _ _ ho ?_⟩
  rw [hd]
  refine WP.pure ?_
  dsimp only
  split
  · exact tail h1
  · exact tail (by unfold callMarked; exact WP.keep h1)

variable {env : Env} {Γ : Gm} {sc : Kd} {L : Nat} {ev : Ev}
/-- a function held by a cell is called -/
theorem callCel_ok (ok : OkE B L ev) (rm : Room L A) (kn : Kn sc env) (se : Sees B G s env Γ) {x : Str} {f : Addr} {px pos : Pos} {args : List Expr} {ds : List D} {Q : Value → Shared → Prop} (hk : kc (look sc x) = .cel) (hd : look Γ x = some (.ref f))
    (h1 : strEq x "__debug__" = false) (h2 : strEq x "__classdict__" = false) (ha : each (ev sc Γ) args = some ds)
    (h : ∀ vs G1 s1, Ke B G s G1 s1 → RdL G1 s1.heap vs ds → IsFn s1.heap f ∧ WP B A (call (.ref f) vs) Q E s1) : WP B A (eval (.Call (.Name x px) args [] pos) env) Q E s := by
  show WP B A (do callWith pos (← eval (.Name x px) env) [] (backTo pos (starEach args env)) []) Q E s
  rw [kn x] at hk
  refine WP.bind ⟨@wpAny_Name _ _ _ _ _ _ _ _ (load_cel se hk hd (not_eq h2) fun v G1 s1 k1 r1 => ?_).w (not_eq h1)⟩
  obtain rfl := r1.refI
  refine callWith_fn (star_any ha) (each_ok ok rm kn ha (se.ke k1) fun vs G2 s2 k2 r2 => ?_)
  exact h vs G2 s2 (k1.trans k2) r2
end
end Mine

end
section
open PySem PySem.W PyProof.Rows
set_option Elab.async false
namespace Mine

section
variable {M : Model} {A : Around} {E : Value → Shared → Prop} {s : Shared} {name qual : Str} {params : Arguments} {body : List Stmt} {scope : Scope} {env : Env} {c P : Addr} {ps : Array Value} {pos : Pos} {firstLine : Nat} {mg : Str → Option Value}
  {clos : List (Str × Addr)} {Q : Value → Shared → Prop}
/-- a new code record -/
noncomputable def CodeAt (h : Heap) (c : Addr) (q : Str) : Prop := ∃ oc vs t, h.get? c = some oc ∧ oc.cls = .type "code" ∧ oc.data = .fields vs ∧ vs[1]? = some (.str q t)
theorem code_new {h : Heap} {c P : Addr} {q : Str} {ps : Array Value} (r : h.CodeRec (.ref c) q) (t : h.TableAt c P ps) : CodeAt h c q := by
  obtain ⟨c', o, vs, tk, e, h1, h2, h3⟩ := r
  cases e
  obtain ⟨⟨o', vs', g1, g2, g3, _⟩, _⟩ := t
  rw [h1] at g1; cases g1
  exact ⟨o, vs, tk, h1, g2, h2, h3⟩

theorem make_new (hcl : closureFor scope env = pure clos) (hge0 : env.globals = mainGlobals) (hg : s.heap.Ns mainGlobals mg) (hcode : env.code = .ref c) (C : CodeHd s.heap c P) (hP : s.heap.get? P = some (tabO ps)) (ht : TriplesOk ps.toList)
    (hnf : codeAmong pos ps.toList = none) (hgP : mainGlobals ≠ P) (hb : s.heap.BuiltinsAt mg P)
    (h : ∀ c' ctv doc h' tk, Heap.ExtBut P s.heap h' → s.heap.objs.size ≤ h'.objs.size → CodeAt h' c' qual → h'.get? P = some (tabO (ps ++ #[rawInt pos.line, rawInt pos.col, .ref c'])) →
      Q (.ref h'.objs.size) { s with heap := h'.push (fnMade name qual params body scope clos doc ((mg "__name__").getD .none) c' ctv), toks := tk }) :
    wpAny M A (makeFunction name qual params (.stmts body) scope env [] [] [] pos firstLine) Q E s := by
  rw [makeFunction_eq]
  simp only [List.zip_nil_right, List.filterMap_nil, List.isEmpty_nil, if_true, pure_bind]
  obtain ⟨bm, ob, hbm, hne0, _, hneP, hbo, hcls, hdict, hdata⟩ := hb
  unfold makeTail
  rw [hcl, hge0]
  refine @wpAny_bind _ _ _ _ _ _ _ _ _ (@wpAny_pure _ _ _ _ _ _ _ ?_)
  have main : ∀ (ctv : Value) (h0 : Heap), (∀ b o, s.heap.get? b = some o → h0.get? b = some o) → s.heap.objs.size ≤ h0.objs.size →
      wpAny M A (functionCode env pos firstLine name qual params scope (.stmts body)) (fun cv s1 => ∃ c', cv = .ref c' ∧ Heap.ExtBut P s.heap s1.heap ∧ s.heap.objs.size ≤ s1.heap.objs.size ∧ CodeAt s1.heap c' qual ∧ s1.heap.get? P = some (tabO (ps ++ #[rawInt pos.line, rawInt pos.col, .ref c'])) ∧ ∃ h' tk, s1 = { s with heap := h', toks := tk }) E { s with heap := h0 } := fun ctv h0 hk hz => by
    refine @wpAny_functionCodeX _ _ _ _ _ _ _ _ _ _ _ _ _ _ _ _ hcode ((C.keeps hk).code (hk _ _ hP) ht) ((C.keeps hk).tab (hk _ _ hP)) hnf fun c' h' tk hx hge hlt _ hrec htb hlast => ?_
    obtain ⟨P', _, _, hT⟩ := hlast
    exact ⟨c', rfl, fun b o hb e => hx b o hb (hk b o e), Nat.le_trans hz (Nat.le_trans hge (Nat.le_of_lt hlt)), code_new hrec hT, htb.2, h', tk, rfl⟩
  cases clos with
  | nil =>
    simp only [List.isEmpty_nil, if_true]
    refine @wpAny_bind _ _ _ _ _ _ _ _ _ (@wpAny_pure _ _ _ _ _ _ _ ?_)
    refine @wpAny_bind _ _ _ _ _ _ _ _ _ (@wpAny_mono _ _ _ _ _ _ _ _ _ (main .none s.heap (fun _ _ e => e) (Nat.le_refl _)) (fun cv s1 q => ?_) fun _ _ x => x)
    obtain ⟨c', rfl, hx, hsz, hca, hPP, h', tk, rfl⟩ := q
    have hg' := hg.extBut hx hgP
    refine @wpAny_bind _ _ _ _ _ _ _ _ _ (@wpAny_builtinsFor _ _ _ _ _ _ _ _ _ _ hg' hbm hne0 (hx _ _ hneP hbo) hcls hdict hdata ?_)
    refine @wpAny_bind _ _ _ _ _ _ _ _ _ (@wpAny_nsGet _ _ _ _ _ _ _ _ hg' ?_)
    cases hdoc : docOf body with
    | none => exact @wpAny_bind _ _ _ _ _ _ _ _ _ (@wpAny_pure _ _ _ _ _ _ _ (@wpAny_newObj_type _ _ _ _ _ _ _ _ (h c' .none .none h' tk hx hsz hca hPP) (by size_fits)))
    | some t => exact @wpAny_bind _ _ _ _ _ _ _ _ _ (@wpAny_mkText _ _ _ _ _ _ (@wpAny_newObj_type _ _ _ _ _ _ _ _ (h c' .none _ h' _ hx hsz hca hPP) (by size_fits)))
  | cons q r =>
    simp only [List.isEmpty_cons, Bool.false_eq_true, if_false]
    refine @wpAny_bind _ _ _ _ _ _ _ _ _ (@wpAny_newTextTuple _ _ _ _ _ _ ?_)
    refine @wpAny_bind _ _ _ _ _ _ _ _ _ (@wpAny_mono _ _ _ _ _ _ _ _ _ (main .none _ (fun b o e => Heap.get?_push_of_some _ e) (by rw [Heap.size_push]; exact Nat.le_succ _)) (fun cv s1 q => ?_) fun _ _ x => x)
    obtain ⟨c', rfl, hx, hsz, hca, hPP, h', tk, rfl⟩ := q
    have hg' := hg.extBut hx hgP
    refine @wpAny_bind _ _ _ _ _ _ _ _ _ (@wpAny_builtinsFor _ _ _ _ _ _ _ _ _ _ hg' hbm hne0 (hx _ _ hneP hbo) hcls hdict hdata ?_)
    refine @wpAny_bind _ _ _ _ _ _ _ _ _ (@wpAny_nsGet _ _ _ _ _ _ _ _ hg' ?_)
    cases hdoc : docOf body with
    | none => exact @wpAny_bind _ _ _ _ _ _ _ _ _ (@wpAny_pure _ _ _ _ _ _ _ (@wpAny_newObj_type _ _ _ _ _ _ _ _ (h c' _ .none h' tk hx hsz hca hPP) (by size_fits)))
    | some t => exact @wpAny_bind _ _ _ _ _ _ _ _ _ (@wpAny_mkText _ _ _ _ _ _ (@wpAny_newObj_type _ _ _ _ _ _ _ _ (h c' _ _ h' _ hx hsz hca hPP) (by size_fits)))
end

section
variable {B : Bs} {A : Around} {O0 : List Addr} {G : Gh} {s : Shared} {sc : Kd} {env : Env} {V : List Addr} {Γ : Gm} {E : Value → Shared → Prop} {m : Nat}

theorem code_not_tb {c : Addr} {o : Obj} {vs : Array Value} (ho : B.h0.get? c = some o) (hc : o.cls = .type "code") : c ∉ B.tb := fun q => by
  obtain ⟨vs, e⟩ := B.tab.some q
  rw [ho] at e; cases e; cases hc
theorem tab_not {a : Addr} {o : Obj} (st : St B G s) (ho : s.heap.get? a = some o) (hc : o.cls ≠ .none) : a ∉ B.tb := fun q => by
  obtain ⟨vs, e⟩ := st.tg.some q
  rw [ho] at e; cases e; exact hc rfl

theorem CodeHd.st {c P : Addr} (C : CodeHd B.h0 c P) (st : St B G s) : CodeHd s.heap c P := by
  obtain ⟨o, vs, file, tf, flags, tg, inF, text, tt, e, hc, r⟩ := C
  exact ⟨o, vs, file, tf, flags, tg, inF, text, tt, st.kp c o (fun q => by
    obtain ⟨vs, e'⟩ := B.tab.some q
    rw [e] at e'; cases e'; cases hc) e, hc, r⟩
theorem BuiltinsAt.st {P : Addr} (b : B.h0.BuiltinsAt B.mg P) (st : St B G s) : s.heap.BuiltinsAt B.mg P := by
  obtain ⟨bm, o, h1, h2, h3, h4, h5, h6, r⟩ := b
  exact ⟨bm, o, h1, h2, h3, h4, st.kp bm o (fun q => by
    obtain ⟨vs, e'⟩ := B.tab.some q
    rw [h5] at e'; cases e'; cases h6) h5, h6, r⟩

/-- a nested def's object -/
theorem mk_ok {name qual : Str} {params : Arguments} {body : List Stmt} {scope : Scope} {pos : Pos} {firstLine : Nat} {c P : Addr} {clos : List (Str × Addr)} {Q : Value → Shared → Prop} (st : St B G s)
    (hge0 : env.globals = mainGlobals) (hcode : env.code = .ref c) (C : CodeHd B.h0 c P) (hP : P ∈ B.tb) (hdn : B.dn P = (pos, qual)) (hb : B.h0.BuiltinsAt B.mg P) (hcl : closureFor scope env = pure clos)
    (hQ : ∀ fa fd s', Ke B G s G s' → s.heap.objs.size ≤ fa → fa < s'.heap.objs.size → FcAt B s'.heap fa body scope clos fd → (∃ doc pm c' ctv, fd = fnX name qual params body scope clos .none .none doc pm none (.ref c') ctv) → Q (.ref fa) s') :
    WP B A (makeFunction name qual params (.stmts body) scope env [] [] [] pos firstLine) Q E s := by
  have hgP : mainGlobals ≠ P := fun q => (B.low P hP).1 q.symm
  rcases st.tg P hP with e | ⟨c', o, vs, t, e, h1, h2, h3, h4⟩
  · refine WP.mt ⟨make_new (mg := B.mg) hcl hge0 st.g hcode (CodeHd.st C st) e (by show TriplesOk []; exact trivial) (by rfl) hgP (BuiltinsAt.st hb st) fun c' ctv doc h' tk hx hz hca hPP htk hsz => ?_⟩
    obtain ⟨oc, vs, t, g1, g2, g3, g4⟩ := hca
    have nP : NC s.heap P := .cls e (by intro q; cases q)
    have keep : ∀ b o, b ≠ P → s.heap.get? b = some o → (h'.push (fnMade name qual params body scope clos doc ((B.mg "__name__").getD .none) c' ctv)).get? b = some o := fun b o hb e => Heap.get?_push_of_some _ (hx b o hb e)
    have cd : Cd s.heap (h'.push (fnMade name qual params body scope clos doc ((B.mg "__name__").getD .none) c' ctv)) := fun a o vs e c d => keep a o (fun q => nP o vs (q ▸ e) c d) e
    have ke : Ke B G s G { s with heap := h'.push (fnMade name qual params body scope clos doc ((B.mg "__name__").getD .none) c' ctv), toks := tk } := by
      refine ⟨⟨_, _, rfl⟩, fun b o hb e => keep b o (fun q => hb (q ▸ hP)) e, fun tq => fun P' hP' => ?_, cd, hsz, rfl, Nat.le_refl _, fun _ _ => rfl, Nat.le_trans st.tk htk⟩
      by_cases hPP' : P' = P
      · subst hPP'
        refine .inr ⟨c', oc, vs, t, ?_, Heap.get?_push_of_some _ g1, g2, g3, by rw [hdn]; exact g4⟩
        rw [hdn]; exact Heap.get?_push_of_some _ (by simpa using hPP)
      · rcases tq P' hP' with q | ⟨c2, o2, vs2, t2, q1, q2, q3, q4, q5⟩
        · exact .inl (keep P' _ hPP' q)
        · exact .inr ⟨c2, o2, vs2, t2, keep P' _ hPP' q1, cd c2 o2 vs2 q2 q3 q4, q3, q4, q5⟩
    refine hQ _ _ _ ke (Nat.le_trans hz (Nat.le_refl _)) (by show h'.objs.size < (h'.push _).objs.size; rw [Heap.size_push]; exact Nat.lt_succ_self _) ⟨fun q => Nat.not_lt.mpr hz (st.lt _ (st.sub _ q)), ⟨_, Heap.get?_push_size _ rfl, rfl⟩, rfl, rfl, rfl, rfl, rfl, c', oc, vs, t, rfl, Heap.get?_push_of_some _ g1, g2, g3, g4⟩ ⟨_, _, _, _, rfl⟩
  · rw [hdn] at e h4
    refine WP.mt ⟨makeFunction_hit (mg := B.mg) hcl hge0 st.g hcode (CodeHd.st C st) e (by show TriplesOk [_, _, _]; exact trivial) (by show codeAmong pos [rawInt pos.line, rawInt pos.col, .ref c'] = some (.ref c'); simp [codeAmong, rawInt]) (BuiltinsAt.st hb st) fun ctv doc h' tk hk hz htk hsz => ?_⟩
    have ke : Ke B G s G _ := Ke.of st (h' := h'.push _) (fun b o e => Heap.get?_push_of_some _ (hk b o e)) htk hsz
    exact hQ _ _ _ ke hz (by show h'.objs.size < (h'.push _).objs.size; rw [Heap.size_push]; exact Nat.lt_succ_self _) ⟨fun q => Nat.not_lt.mpr hz (st.lt _ (st.sub _ q)), ⟨_, Heap.get?_push_size _ rfl, rfl⟩, rfl, rfl, rfl, rfl, rfl, c', o, vs, t, rfl, Heap.get?_push_of_some _ (hk _ _ h1), h2, h3, h4⟩ ⟨_, _, _, _, rfl⟩

theorem Sees.clo {names : Kd} (se : Sees B G s env Γ) (hn : ∀ x, (x, NameKind.free) ∈ names → kc (env.kindOf x) = .cel) : Clo B G s names (closOf env.cells names []) (freeG Γ names) := by
  refine ⟨fun x c hx => ?_, fun x c hx => ?_, fun x hx => ?_, fun x d hx => (look_freeG hx).1⟩
  · obtain ⟨h1, rfl⟩ := closOf_mem hx
    obtain ⟨c', h2, _, h3, _⟩ := se.cl x (hn x h1)
    rw [h2]; exact h3
  · obtain ⟨h1, rfl⟩ := closOf_mem (mem_of_lookup hx)
    obtain ⟨c', h2, h3, _⟩ := se.cl x (hn x h1)
    rw [h2]; exact h3
  · obtain ⟨c', h2, _, _, h3⟩ := se.cl x (hn x hx)
    exact ⟨c', by rw [closOf_some hx, h2]; rfl, fun d hxd => h3 d (look_freeG hxd).2⟩

noncomputable def freeCel (sc : Kd) : Kd → Bool
  | [] => true
  | (x, k) :: r => match k with
    | .free => match kc (look sc x) with
      | .cel => freeCel sc r
      | _ => false
    | _ => freeCel sc r
theorem freeCel_mem {sc : Kd} : ∀ {names : Kd} {x : Str}, freeCel sc names = true → (x, NameKind.free) ∈ names → kc (look sc x) = .cel
  | (y, k) :: r, x, h, hm => by
    unfold freeCel at h
    split at h
    · split at h
      · rename_i hk
        rcases List.mem_cons.mp hm with q | q
        · cases q; exact hk
        · exact freeCel_mem h q
      · first | exact nsd h | exact nft h | exact ntf h | cases h
    · rename_i hk
      rcases List.mem_cons.mp hm with q | q
      · cases q; exact absurd rfl hk
      · exact freeCel_mem h q

/-- a def within a def -/
theorem def_ok {name qual : Str} {params : Arguments} {body : List Stmt} {scope : Scope} {pos : Pos} {c P : Addr} {Q : Flow → Shared → Prop} (f : Fm B O0 G s sc env V Γ [])
    (hd0 : params.defaults = []) (hk0 : params.kw_defaults = []) (ha : annTrees params none env = []) (hcode : env.code = .ref c) (C : CodeHd B.h0 c P) (hP : P ∈ B.tb) (hdn : B.dn P = (pos, qual)) (hq : qualnameIn env name name = qual)
    (hb : B.h0.BuiltinsAt B.mg P) (hfree : freeCel sc scope.names = true) (hx : storable sc name = true)
    (hQ : ∀ fa fd s', Tr B O0 G s G s' → Fm B O0 G s' sc env V (put Γ name (.ref fa)) [] → fa ∉ G.O → FcAt B s'.heap fa body scope (closOf env.cells scope.names []) fd →
      (∃ doc pm c' ctv, fd = fnX name qual params body scope (closOf env.cells scope.names []) .none .none doc pm none (.ref c') ctv) → Q .next s') :
    WP B A (exec (.FunctionDef name params body [] none [] scope none name pos) env) Q E s := by
  have hfr : ∀ x, (x, NameKind.free) ∈ scope.names → kc (env.kindOf x) = .cel := fun x hm => by rw [← f.kn x]; exact freeCel_mem hfree hm
  have hcl : closureFor scope env = pure (closOf env.cells scope.names []) := closureFor_ok fun x hm => let ⟨c, h, _, _, _⟩ := f.se.cl x (hfr x hm); ⟨c, h⟩
  refine ⟨@nestDef_K _ _ _ _ _ _ _ _ _ _ _ hd0 hk0 ha ?_⟩
  rw [hq]
  refine (mk_ok f.st f.se.glob hcode C hP hdn hb hcl fun fa fd s1 k1 hz hlt fc hfd => ?_).w
  have hnO : fa ∉ G.O := fun q => Nat.not_lt.mpr hz (f.st.lt _ q)
  refine ((f.ke k1).stored hx (.ref fa) fun s2 t2 f2 => ?_).w
  exact hQ fa fd s2 ((Tr.ke f.st k1).trans t2) f2 hnO (fc.kw t2.kx.kw fun q => hnO (mem_Wn.mp q).1) hfd
end
end Mine

end
section
open PySem PySem.W PyProof.Rows
set_option Elab.async false
namespace Mine

section
variable {ev : Kd → Gm → Expr → Option D} {sc : Kd} {Γ Γ1 : Gm} {Ω Ω1 : Om} {k m : Nat}
theorem evS_If {t : Expr} {b o : List Stmt} {p : Pos} {c : Bool} (h : testD (ev sc) Γ Ω t = some (c, Γ1, Ω1)) : evS noHk ev k (m + 1) sc Γ Ω (.If t b o p) = evSs (evS noHk ev k m) sc (cond c b o) Γ1 Ω1 := by
  show (match testD (ev sc) Γ Ω t with
      | none => none
      | some (c, Γ1, Ω1) => match c with
        | true => evSs (evS noHk ev k m) sc b Γ1 Ω1
        | false => evSs (evS noHk ev k m) sc o Γ1 Ω1) = _
  rw [h]; cases c <;> rfl
theorem evS_Ret {e : Expr} {d : D} {p : Pos} (h : ev sc Γ e = some d) : evS noHk ev k (m + 1) sc Γ [] (.Return (some e) p) = some (.ret d, Γ, []) := by
  show (match evF (ev sc) Γ [] e with
        | none => none
        | some (d, Γ1, Ω1) => some (Fl.ret d, Γ1, Ω1)) = _
  unfold evF; rw [h]
theorem evSs_cons {rec : Sv} {st : Stmt} {r : List Stmt} (h : rec sc Γ Ω st = some (.nxt, Γ1, Ω1)) : evSs rec sc (st :: r) Γ Ω = evSs rec sc r Γ1 Ω1 := by
  show (match rec sc Γ Ω st with
    | none => none
    | some (fl, Γ', Ω') => match fl with
      | .nxt => evSs rec sc r Γ' Ω'
      | _ => some (fl, Γ', Ω')) = _
  rw [h]
theorem evSs_ret {rec : Sv} {st : Stmt} {r : List Stmt} {d : D} (h : rec sc Γ Ω st = some (.ret d, Γ1, Ω1)) : evSs rec sc (st :: r) Γ Ω = some (.ret d, Γ1, Ω1) := by
  show (match rec sc Γ Ω st with
    | none => none
    | some (fl, Γ', Ω') => match fl with
      | .nxt => evSs rec sc r Γ' Ω'
      | _ => some (fl, Γ', Ω')) = _
  rw [h]
end

section
variable {B : Bs} {A : Around} {O0 : List Addr} {G : Gh} {s : Shared} {sc : Kd} {env : Env} {V : List Addr} {Γ Γ' : Gm} {Ω Ω' : Om} {E : Value → Shared → Prop} {L : Nat} {ev : Ev} {rec : Sv}
/-- some statements by the evaluator, then others by hand -/
theorem ss_then (ok : OkS B L rec) (rm : Room L A) {post : List Stmt} : ∀ {pre : List Stmt} {Γ : Gm} {Ω : Om} {G : Gh} {s : Shared} {Q : Flow → Shared → Prop}, evSs rec sc pre Γ Ω = some (.nxt, Γ', Ω') → Fm B O0 G s sc env V Γ Ω →
    (∀ G' s', Tr B O0 G s G' s' → Fm B O0 G' s' sc env V Γ' Ω' → WP B A (execs post env) Q E s') → WP B A (execs (pre ++ post) env) Q E s
  | [], Γ, Ω, G, s, Q, h, f, hQ => by
    cases h
    exact hQ G s (.refl f.st) f
  | st :: sts, Γ, Ω, G, s, Q, h, f, hQ => by
    unfold evSs at h
    split at h
    · first | exact nsd h | exact nft h | exact ntf h | cases h
    rename_i fl Γ1 Ω1 h1
    refine ⟨@wpAny_execs_cons _ _ _ _ _ _ _ _ (ok sc Γ Ω st _ h1 A O0 G s env V E _ rm f fun fw G1 s1 t1 f1 hfl => ?_).w⟩
    cases fl <;> simp only [reduceCtorEq, Option.some.injEq, Prod.mk.injEq, false_and] at h
    cases fw <;> first | exact False.elim hfl | skip
    exact (ss_then ok rm h f1 fun G2 s2 t2 f2 => hQ G2 s2 (t1.trans t2) f2).w

theorem WP.binop {l r : Expr} {op : Operator} {p : Pos} {Q : Value → Shared → Prop} (h : WP B A (eval l env) (fun v s1 => WP B A (eval r env) (fun w s2 => WP B A (binaryOp op v w) Q E s2) E s1) E s) : WP B A (eval (.BinOp l op r p) env) Q E s :=
  ⟨@wpAny_BinOp _ _ _ _ _ _ _ _ _ _ (@wpAny_mono _ _ _ _ _ _ _ _ _ h.w (fun _ _ x => @wpAny_mono _ _ _ _ _ _ _ _ _ x.w (fun _ _ y => y.w) fun _ _ y => y) fun _ _ x => x)⟩
theorem WP.ret1 {e : Expr} {p : Pos} {Q : Flow → Shared → Prop} (h : WP B A (eval e env) (fun v => Q (.ret v)) E s) : WP B A (execs [.Return (some e) p] env) Q E s :=
  ⟨@wpAny_execs_cons _ _ _ _ _ _ _ _ (@wpAny_Return_some _ _ _ _ _ _ _ _ h.w)⟩
end

/-! digits to a number -/
noncomputable def val (n : Nat) : List Int → Int
  | [] => 0
  | d :: r => d + val n r * 2 ^ n
theorem val_append (n : Nat) : ∀ (a b : List Int), val n (a ++ b) = val n a + val n b * 2 ^ (n * a.length)
  | [], b => by simp [val]
  | d :: a, b => by
    simp only [List.cons_append, val, List.length_cons, val_append n a b]
    rw [Nat.mul_add, Nat.mul_one, Int.pow_add]
    simp only [Int.add_mul, Int.mul_assoc, Int.add_assoc]
theorem two_pow_pos (k : Nat) : (0 : Int) < 2 ^ k := Int.pow_pos (by decide)
theorem val_bound (n : Nat) : ∀ (l : List Int), (∀ d ∈ l, 0 ≤ d ∧ d < 2 ^ n) → 0 ≤ val n l ∧ val n l < 2 ^ (n * l.length)
  | [], _ => by simp [val]
  | d :: l, h => by
    obtain ⟨h1, h2⟩ := h d List.mem_cons_self
    obtain ⟨h3, h4⟩ := val_bound n l fun e he => h e (List.mem_cons_of_mem _ he)
    simp only [val, List.length_cons, Nat.mul_add, Nat.mul_one, Int.pow_add]
    have hp := two_pow_pos n
    generalize (2 : Int) ^ n = q at *
    generalize (2 : Int) ^ (n * l.length) = p at *
    have h5 := Int.mul_nonneg h3 (Int.le_of_lt hp)
    have h6 : (val n l + 1) * q ≤ p * q := Int.mul_le_mul_of_nonneg_right (by omega) (Int.le_of_lt hp)
    rw [Int.add_mul, Int.one_mul] at h6
    constructor
    · omega
    · omega
theorem intBits_le {a : Int} {k : Nat} (h0 : 0 ≤ a) (h1 : a < 2 ^ k) : Builtin.Int.intBits a ≤ k := by
  unfold Builtin.Int.intBits
  by_cases h : a = 0
  · subst h; simp
  · rw [if_neg (by simpa using h)]
    have h2 : a.natAbs < 2 ^ k := by
      have e : ((a.natAbs : Nat) : Int) = a := Int.natAbs_of_nonneg h0
      have : ((a.natAbs : Nat) : Int) < ((2 ^ k : Nat) : Int) := by rw [e]; simpa using h1
      exact Int.ofNat_lt.mp this
    exact (Nat.log2_lt (by omega)).mpr h2
noncomputable def seg (ds : List Int) (L R : Nat) : List Int := (ds.drop L).take (R - L)
theorem seg_one {ds : List Int} {L : Nat} {d : Int} (h : ds[L]? = some d) : seg ds L (L + 1) = [d] := by
  unfold seg
  obtain ⟨h1, h2⟩ := List.getElem?_eq_some_iff.mp h
  rw [Nat.add_sub_cancel_left, List.drop_eq_getElem_cons h1, h2]
  simp
theorem seg_split {ds : List Int} {L M R : Nat} (h1 : L ≤ M) (h2 : M ≤ R) : seg ds L R = seg ds L M ++ seg ds M R := by
  unfold seg
  have e : R - L = (M - L) + (R - M) := by rw [Nat.add_comm, Nat.sub_add_sub_cancel h2 h1]
  rw [e, List.take_add, List.drop_drop]
  congr 2
  rw [Nat.add_sub_cancel' h1]
theorem seg_len {ds : List Int} {L R : Nat} (h1 : L ≤ R) (h2 : R ≤ ds.length) : (seg ds L R).length = R - L := by
  unfold seg; rw [List.length_take, List.length_drop]; exact Nat.min_eq_left (Nat.sub_le_sub_right h2 L)
theorem seg_mem {ds : List Int} {L R : Nat} {d : Int} (h : d ∈ seg ds L R) : d ∈ ds := List.mem_of_mem_drop (List.mem_of_mem_take h)

/-- the middle of a stretch -/
structure Mid (L R k M : Nat) : Prop where
  lm : L < M
  mr : M < R
  k1 : R - M ≤ k
  k2 : M - L ≤ k
  sum : R - M + (M - L) = R - L
  sum' : M - L + (R - M) = R - L
  add : L + (M - L) = M
theorem mid_two {L R : Nat} (h : L < R) (hb : ¬ L + 1 = R) : L < (L + R) / 2 ∧ (L + R) / 2 < R := by omega
theorem mid_k {L M R k : Nat} (h : L < M) (hk : R - L ≤ k + 1) : R - M ≤ k := by omega
theorem mid_k' {L M R k : Nat} (h : M < R) (hk : R - L ≤ k + 1) : M - L ≤ k := by omega
theorem mid_of {L R k : Nat} (h : L < R) (hb : ¬ L + 1 = R) (hk : R - L ≤ k + 1) : Mid L R k ((L + R) / 2) :=
  let ⟨a, b⟩ := mid_two h hb
  have s := Nat.sub_add_sub_cancel (Nat.le_of_lt b) (Nat.le_of_lt a)
  ⟨a, b, mid_k a hk, mid_k' b hk, s, (Nat.add_comm _ _).trans s, Nat.add_sub_cancel' (Nat.le_of_lt a)⟩
theorem mid_int {L R : Nat} (h : L ≤ R) : ((L : Int) + (R : Int)).fdiv (2 ^ 1) = (((L + R) / 2 : Nat) : Int) := by
  rw [Int.fdiv_eq_ediv_of_nonneg _ (by decide)]; rfl
theorem mid_sh {L M n : Nat} (h : L ≤ M) : (((M : Nat) : Int) - (L : Int)) * (n : Int) = ((n * (M - L) : Nat) : Int) := by
  rw [Int.natCast_mul, Int.natCast_sub h, Int.mul_comm]
theorem bits_sum {b u v : Nat} (h : b ≤ u) (h3 : u ≤ 2 ^ 14 * 64) (h4 : v ≤ 2 ^ 14 * 64) : (b : Int) + (v : Int) ≤ 2 ^ 27 := by omega
theorem sub_64 {a b N : Nat} (h : b ≤ N) (hN : N ≤ 64) : b - a ≤ 64 := by omega
theorem int_le64 {R N : Nat} (h : R ≤ N) (hN : N ≤ 64) : (R : Int) ≤ 64 := by omega
theorem end_no {L R : Nat} (h : ¬ L + 1 = R) : ((L : Int) + 1 == (R : Int)) = false := by simp; omega
theorem end_yes {L : Nat} : ((L : Int) + 1 == ((L + 1 : Nat) : Int)) = true := by simp
theorem idx_lt {L N : Nat} (h : L < N) (hN : N ≤ 64) : (L : Int) < 2 ^ 63 := by omega

section
variable {B : Bs} {L0 : Nat} {X : Nv} {q kk mm : Nat}

theorem FcAt.kx {W : List Addr} {G G' : Gh} {s s' : Shared} {a : Addr} {body : List Stmt} {scope : Scope} {cl : List (Str × Addr)} {fd : FuncData} (f : FcAt B s.heap a body scope cl fd) (k : Kx B W G s G' s') (ha : a ∉ W) : FcAt B s'.heap a body scope cl fd := f.kw k.kw ha

theorem d2i_inner (nv : NvOk B L0 X) {fa : Addr} {body : List Stmt} {scope : Scope} {cl : List (Str × Addr)} {fd : FuncData} {Γc : Gm} {Lx Rx nm : Str} {t re a1 a2 a3 a4 sh : Expr} {s2 s3 : Stmt} {pr pi p1 p2 p3 p4 p5 p6 p7 : Pos} {ds : List Int} {n : Nat}
    (hsc : scOk scope = true) (hsL : storable scope.names Lx = true) (hsR : storable scope.names Rx = true) (hbind : ∀ v w, bindArgs fd ⟨[v, w], []⟩ = pure [(Lx, v), (Rx, w)])
    (hb : body = [.If t [.Return (some re) pr] [] pi, s2, s3] ++ [.Return (some (.BinOp (.BinOp (.Call (.Name nm p1) [a1, a2] [] p2) .LShift sh p3) .Add (.Call (.Name nm p4) [a3, a4] [] p5) p6)) p7])
    (hds : ∀ d ∈ ds, 0 ≤ d ∧ d < 2 ^ n) (hlen : ds.length ≤ 64) (hn : n ≤ 2 ^ 14) (hk : kc (look scope.names nm) = .cel) (h1 : strEq nm "__debug__" = false) (h2 : strEq nm "__classdict__" = false)
    (ht : ∀ L R : Int, testD (evE X q scope.names) (bindPs Γc [Lx, Rx] [.int L, .int R]) [] t = some (L + 1 == R, bindPs Γc [Lx, Rx] [.int L, .int R], []))
    (hr : ∀ (L R : Int), evE X q scope.names (bindPs Γc [Lx, Rx] [.int L, .int R]) re = itemD (.lst (ds.map D.int)) (.int L))
    (hm : ∀ L R : Int, 0 ≤ L → L < R → R ≤ 64 → ∃ Γ', evSs (evS noHk (evE X q) kk (mm + 2)) scope.names [s2, s3] (bindPs Γc [Lx, Rx] [.int L, .int R]) [] = some (.nxt, Γ', []) ∧ each (evE X q scope.names Γ') [a1, a2] = some [.int ((L + R).fdiv (2 ^ 1)), .int R] ∧
      each (evE X q scope.names Γ') [a3, a4] = some [.int L, .int ((L + R).fdiv (2 ^ 1))] ∧ evE X q scope.names Γ' sh = some (.int (((L + R).fdiv (2 ^ 1) - L) * n)) ∧ look Γ' nm = some (.ref fa)) :
    ∀ (k L R : Nat), L < R → R ≤ ds.length → R - L ≤ k → ∀ A G s vs Q E, Room (L0 + k + 1) A → St B G s → FcAt B s.heap fa body scope cl fd → Clo B G s scope.names cl Γc → RdL G s.heap vs [.int (L : Int), .int (R : Int)] →
      Post B G s (.int (val n (seg ds L R))) Q → WP B A (call (.ref fa) vs) Q E s := by
  intro k
  induction k with
  | zero => intro L R h1 _ h3; exact absurd h1 (Nat.not_lt.mpr (Nat.le_of_sub_eq_zero (Nat.le_zero.mp h3)))
  | succ k ih =>
    intro L R hLR hR hk' A G s vs Q E rm st fc clo r hQ
    obtain ⟨v, w, rfl, rv, rw'⟩ := r.two
    refine enter_fc (m := L0 + k + 1) fc hsc (hbind v w) ?_ st clo (ds := [.int (L : Int), .int (R : Int)]) (.cons rv (.cons rw' .nil)) rm fun env G1 s1 V Q1 E1 f1 kx hO hV _ _ _ hq1 _ rm1 => ?_
    · intro p hp
      rcases List.mem_cons.mp hp with q | q
      · rw [q]; exact hsL
      · rw [List.mem_singleton.mp q]; exact hsR
    have okS := evS_ok (H := noHk) nv noHk_ok q kk (mm + 2)
    have okE := (evE_ok nv q).1
    have rmL : Room L0 (A.deeper env) := rm1.less (by omega)
    by_cases hbase : L + 1 = R
    · subst hbase
      have hlt : L < ds.length := hR
      have hget : ds[L]? = some ds[L] := List.getElem?_eq_getElem hlt
      have htest : ((L : Int) + 1 == ((L + 1 : Nat) : Int)) = true := end_yes
      have hev : evSs (evS noHk (evE X q) kk (mm + 2)) scope.names body (bindPs Γc [Lx, Rx] [.int (L : Int), .int ((L + 1 : Nat) : Int)]) [] = some (.ret (.int ds[L]), bindPs Γc [Lx, Rx] [.int (L : Int), .int ((L + 1 : Nat) : Int)], []) := by
        rw [hb]
        refine evSs_ret ?_
        rw [evS_If (ht _ _), htest]
        refine evSs_ret (evS_Ret ?_)
        rw [hr]
        simp only [itemD]
        rw [if_pos ⟨Int.natCast_nonneg _, idx_lt hlt hlen⟩, Int.toNat_natCast, List.getElem?_map, hget]; rfl
      refine ss_ok okS rmL hev f1 fun fl G2 s2 t2 f2 hfl => ?_
      revert hfl
      cases fl <;> first | (intro hfl; exact hfl.elim) | skip
      intro hfl
      refine hq1 _ _ (hQ _ _ _ (Fm.ke_of hO hV kx t2) ?_)
      rw [seg_one hget, show val n [ds[L]] = ds[L] by simp only [val, Int.zero_mul, Int.add_zero]]
      exact (show Rd G2 s2.heap _ (.int ds[L]) from hfl).intK fun t => .int _ t
    · have htest : ((L : Int) + 1 == (R : Int)) = false := end_no hbase
      obtain ⟨Γ', hss, ha1, ha2, hsh, hfn⟩ := hm L R (Int.natCast_nonneg _) (Int.ofNat_lt.mpr hLR) (int_le64 hR hlen)
      rw [hb]
      have hpre : evSs (evS noHk (evE X q) kk (mm + 2)) scope.names [.If t [.Return (some re) pr] [] pi, s2, s3] (bindPs Γc [Lx, Rx] [.int (L : Int), .int (R : Int)]) [] = some (.nxt, Γ', []) := by
        rw [evSs_cons (Γ1 := bindPs Γc [Lx, Rx] [.int (L : Int), .int (R : Int)]) (Ω1 := [])]
        · exact hss
        · rw [evS_If (ht _ _), htest]; rfl
      refine ss_then okS rmL hpre f1 fun G2 s2 t2 f2 => ?_
      have fc2 : FcAt B s2.heap fa body scope cl fd := (fc.kx kx fun h => nomatch h).kx t2.kx fun h => by
        have := (mem_Wn.mp h)
        rcases (hO fa).mp this.1 with q | q
        · have := hV fa q
          obtain ⟨o, ho, _⟩ := fc.ob
          exact Nat.not_lt.mpr this (Heap.lt_size ho)
        · exact this.2 q
      have clo2 : Clo B G2 s2 scope.names cl Γc := (clo.kx kx st (fun _ h => nomatch h) fun _ _ _ h => nomatch h).kx t2.kx f1.st (fun a ha => (mem_Wn.mp ha).1) fun x c hc h => by
        have := mem_Wn.mp h
        rcases (hO c).mp this.1 with q | q
        · exact Nat.not_lt.mpr (hV c q) (clo.old x c (mem_of_lookup hc))
        · exact this.2 q
      have md := mid_of hLR hbase hk'
      rw [mid_int (Nat.le_of_lt hLR)] at ha1 ha2 hsh
      rw [mid_sh (Nat.le_of_lt md.lm)] at hsh
      generalize (L + R) / 2 = M at *
      have hLM := md.lm
      have hMR := md.mr
      have b1 := val_bound n (seg ds M R) fun d hd => hds d (seg_mem hd)
      rw [seg_len (Nat.le_of_lt hMR) hR] at b1
      refine WP.ret1 (WP.binop (WP.binop (callCel_ok okE rmL f2.kn f2.se hk hfn h1 h2 ha1 fun vs3 G3 s3 k3 r3 => ?_)))
      have fc3 := fc2.ke k3
      refine ⟨fc3.isFn, ih M R hMR hR md.k1 _ G3 s3 vs3 _ _ (rm1.less (by omega)) (f2.st.ke k3) fc3 (clo2.ke k3 f2.st) r3 fun v4 G4 s4 k4 r4 => ?_⟩
      have k04 := k3.trans k4
      refine okE scope.names Γ' sh _ hsh _ G4 s4 env _ _ rmL f2.kn (f2.se.ke k04) fun v5 G5 s5 k5 r5 => ?_
      have st4 := f2.st.ke k04
      have st5 := st4.ke k5
      have hL : binop .LShift (.int (val n (seg ds M R))) (.int ((n * (M - L) : Nat) : Int)) = some (.int (val n (seg ds M R) * 2 ^ (n * (M - L)))) := by
        have hcond : (0 : Int) ≤ ((n * (M - L) : Nat) : Int) ∧ (Builtin.Int.intBits (val n (seg ds M R)) : Int) + ((n * (M - L) : Nat) : Int) ≤ 2 ^ 27 :=
          ⟨Int.natCast_nonneg _, bits_sum (intBits_le b1.1 b1.2) (Nat.mul_le_mul hn (sub_64 hR hlen)) (Nat.mul_le_mul hn (sub_64 (Nat.le_trans (Nat.le_of_lt hMR) hR) hlen))⟩
        show intOp .LShift _ _ = _
        unfold intOp
        dsimp only
        rw [if_pos hcond, Int.toNat_natCast]
      refine binop_ok st5 (r4.ke st4 k5) r5 hL fun v6 G6 s6 k6 r6 => ?_
      have k06 := (k04.trans k5).trans k6
      refine callCel_ok okE rmL f2.kn (f2.se.ke k06) hk hfn h1 h2 ha2 fun vs7 G7 s7 k7 r7 => ?_
      have k07 := k06.trans k7
      have fc7 := fc2.ke k07
      refine ⟨fc7.isFn, ih L M hLM (Nat.le_trans (Nat.le_of_lt hMR) hR) md.k2 _ G7 s7 vs7 _ _ (rm1.less (by omega)) (f2.st.ke k07) fc7 (clo2.ke k07 f2.st) r7 fun v8 G8 s8 k8 r8 => ?_⟩
      have st6 := f2.st.ke k06
      have st7 := f2.st.ke k07
      refine binop_ok (st7.ke k8) ((r6.ke st6 k7).ke st7 k8) r8 (d := .int (val n (seg ds L R))) ?_ fun v9 G9 s9 k9 r9 => ?_
      · show some (D.int _) = _
        rw [seg_split (ds := ds) (L := L) (M := M) (R := R) (Nat.le_of_lt hLM) (Nat.le_of_lt hMR), val_append, seg_len (Nat.le_of_lt hLM) (Nat.le_trans (Nat.le_of_lt hMR) hR)]
        exact congrArg (fun z => some (D.int z)) (Int.add_comm _ _)
      · refine hq1 _ _ (hQ _ _ _ (Fm.ke_of hO hV kx (t2.trans (Tr.ke f2.st ((k07.trans k8).trans k9)))) ?_)
        exact r9.intK fun t => .int _ t
end
end Mine

end
section
open PySem PySem.W PyProof.Rows
set_option Elab.async false
namespace Mine

section
variable {B : Bs} {L0 : Nat} {X : Nv} {q kk mm : Nat}

theorem FcAt.st {G : Gh} {s : Shared} {a : Addr} {body : List Stmt} {scope : Scope} {cl : List (Str × Addr)} {fd : FuncData} (f : FcAt B B.h0 a body scope cl fd) (st : St B G s) : FcAt B s.heap a body scope cl fd := by
  obtain ⟨o, ho, hd⟩ := f.ob
  obtain ⟨c, oc, vs, t, h1, h2, h3, h4, h5⟩ := f.cd
  exact ⟨f.nt, ⟨o, st.kp a o f.nt ho, hd⟩, f.sc, f.bd, f.gl, f.bl, f.cl, c, oc, vs, t, h1, st.kp c oc (code_not_tb h2 h3 (vs := vs)) h2, h3, h4, h5⟩
theorem Clo.none {G : Gh} {s : Shared} {names : Kd} (h : noFree names = true) : Clo B G s names [] [] := ⟨fun _ _ h => (nomatch h), fun _ _ h => (nomatch h), fun x hx => absurd hx (noFree_mem h), fun _ _ h => (nomatch h)⟩

theorem truth_lst {xs : List D} (h : (xs.length : Int) < 2 ^ 63) : truth (.lst xs) = some (!xs.isEmpty) := by
  unfold truth
  simp only [h, if_true]
theorem WP.ifexp {A : Around} {s : Shared} {env : Env} {E : Value → Shared → Prop} {t b o : Expr} {p : Pos} {Q : Value → Shared → Prop} (h : WP B A (isTrue t env (eval t env)) (fun c s1 => WP B A (if c then eval b env else eval o env) Q E s1) E s) : WP B A (eval (.IfExp t b o p) env) Q E s :=
  ⟨@wpAny_IfExp _ _ _ _ _ _ _ _ _ _ (@wpAny_mono _ _ _ _ _ _ _ _ _ h.w (fun c _ x => by cases c <;> exact x.w) fun _ _ x => x)⟩
theorem WP.exec1 {A : Around} {s : Shared} {env : Env} {E : Value → Shared → Prop} {st : Stmt} {r : List Stmt} {Q : Flow → Shared → Prop} (h : WP B A (exec st env) (fun f s1 => f = .next ∧ WP B A (execs r env) Q E s1) E s) : WP B A (execs (st :: r) env) Q E s :=
  ⟨@wpAny_execs_cons _ _ _ _ _ _ _ _ (@wpAny_mono _ _ _ _ _ _ _ _ _ h.w (fun f _ x => by obtain ⟨rfl, x⟩ := x; exact x.w) fun _ _ x => x)⟩

theorem d2i_ok (nv : NvOk B L0 X) {a c P : Addr} {body ibody : List Stmt} {scope iscope : Scope} {fd : FuncData} {params : Arguments} {dx nx Lx Rx nm qual : Str} {ipos p1' p2' p3' p4' : Pos} {te e1 e2 oe : Expr}
    (fc0 : FcAt B B.h0 a body scope [] fd) (hsc : scOk scope = true) (hnf : noFree scope.names = true) (hsd : storable scope.names dx = true) (hsn : storable scope.names nx = true) (hbind : ∀ v w, bindArgs fd ⟨[v, w], []⟩ = pure [(dx, v), (nx, w)])
    (hcode : fd.code = .ref c) (C : CodeHd B.h0 c P) (hP : P ∈ B.tb) (hdn : B.dn P = (ipos, qual)) (hq : (fd.qualname ++ ".<locals>." ++ nm : Str) = qual) (hbm : B.h0.BuiltinsAt B.mg P)
    (hb : body = [.FunctionDef nm params ibody [] none [] iscope none nm ipos, .Return (some (.IfExp te (.Call (.Name nm p1') [e1, e2] [] p2') oe p3')) p4'])
    (hd0 : params.defaults = []) (hk0 : params.kw_defaults = []) (ha : ∀ env, annTrees params none env = []) (hfree : freeCel scope.names iscope.names = true) (hx : look scope.names nm = some .cell)
    {ds : List Int} {n : Nat}
    (hte : ∀ fa, evE X q scope.names (put (bindPs [] [dx, nx] [.lst (ds.map D.int), .int n]) nm (.ref fa)) te = some (.lst (ds.map D.int)))
    (he : ∀ fa, each (evE X q scope.names (put (bindPs [] [dx, nx] [.lst (ds.map D.int), .int n]) nm (.ref fa))) [e1, e2] = some [.int 0, .int (ds.map D.int).length])
    (hoe : ∀ fa, evE X q scope.names (put (bindPs [] [dx, nx] [.lst (ds.map D.int), .int n]) nm (.ref fa)) oe = some (.int 0))
    {t re a1 a2 a3 a4 sh : Expr} {s2 s3 : Stmt} {pr pi p1 p2 p3 p4 p5 p6 p7 : Pos}
    (hisc : scOk iscope = true) (hsL : storable iscope.names Lx = true) (hsR : storable iscope.names Rx = true)
    (hibind : ∀ doc pm c' ctv cl v w, bindArgs (fnX nm qual params ibody iscope cl .none .none doc pm none (.ref c') ctv) ⟨[v, w], []⟩ = pure [(Lx, v), (Rx, w)])
    (hib : ibody = [.If t [.Return (some re) pr] [] pi, s2, s3] ++ [.Return (some (.BinOp (.BinOp (.Call (.Name nm p1) [a1, a2] [] p2) .LShift sh p3) .Add (.Call (.Name nm p4) [a3, a4] [] p5) p6)) p7])
    (hds : ∀ d ∈ ds, 0 ≤ d ∧ d < 2 ^ n) (hlen : ds.length ≤ 64) (hn : n ≤ 2 ^ 14) (hk : kc (look iscope.names nm) = .cel) (h1 : strEq nm "__debug__" = false) (h2 : strEq nm "__classdict__" = false)
    (ht : ∀ fa, ∀ L R : Int, testD (evE X q iscope.names) (bindPs (freeG (put (bindPs [] [dx, nx] [.lst (ds.map D.int), .int n]) nm (.ref fa)) iscope.names) [Lx, Rx] [.int L, .int R]) [] t = some (L + 1 == R, bindPs (freeG (put (bindPs [] [dx, nx] [.lst (ds.map D.int), .int n]) nm (.ref fa)) iscope.names) [Lx, Rx] [.int L, .int R], []))
    (hr : ∀ fa, ∀ (L R : Int), evE X q iscope.names (bindPs (freeG (put (bindPs [] [dx, nx] [.lst (ds.map D.int), .int n]) nm (.ref fa)) iscope.names) [Lx, Rx] [.int L, .int R]) re = itemD (.lst (ds.map D.int)) (.int L))
    (hm : ∀ fa, ∀ L R : Int, 0 ≤ L → L < R → R ≤ 64 → ∃ Γ', evSs (evS noHk (evE X q) kk (mm + 2)) iscope.names [s2, s3] (bindPs (freeG (put (bindPs [] [dx, nx] [.lst (ds.map D.int), .int n]) nm (.ref fa)) iscope.names) [Lx, Rx] [.int L, .int R]) [] = some (.nxt, Γ', []) ∧ each (evE X q iscope.names Γ') [a1, a2] = some [.int ((L + R).fdiv (2 ^ 1)), .int R] ∧
      each (evE X q iscope.names Γ') [a3, a4] = some [.int L, .int ((L + R).fdiv (2 ^ 1))] ∧ evE X q iscope.names Γ' sh = some (.int (((L + R).fdiv (2 ^ 1) - L) * n)) ∧ look Γ' nm = some (.ref fa)) :
    OkCall B (L0 + 70) (.ref a) [.lst (ds.map D.int), .int n] (.int (val n ds)) := by
  intro A G s vs E Q rm st r hQ
  obtain ⟨v, w, rfl, rv, rw'⟩ := r.two
  have fc := fc0.st st
  refine enter_fc (m := L0 + 69) fc hsc (hbind v w) ?_ st (Clo.none hnf) (ds := [.lst (ds.map D.int), .int n]) (.cons rv (.cons rw' .nil)) rm fun env G1 s1 V Q1 E1 f1 kx hO hV hec heq _ hq1 _ rm1 => ?_
  · intro p hp
    rcases List.mem_cons.mp hp with e | e
    · rw [e]; exact hsd
    · rw [List.mem_singleton.mp e]; exact hsn
  have okE := (evE_ok nv q).1
  have okT := (evE_ok nv q).2
  have rmL : Room L0 (A.deeper env) := rm1.less (by omega)
  have hst : storable scope.names nm = true := by unfold storable; rw [hx]
  have hqn : qualnameIn env nm nm = qual := by
    unfold qualnameIn
    have hkd : env.kindOf nm = some .cell := (f1.ow.cel nm hx).1
    rw [hkd, heq, ← hq]; rfl
  rw [hb]
  refine WP.exec1 (def_ok f1 hd0 hk0 (ha env) (hec.trans hcode) C hP hdn hqn hbm hfree hst fun fa ifd s2' t2 f2 hfa fci hfd => ⟨rfl, ?_⟩)
  obtain ⟨doc, pm, c', ctv, hfd⟩ := hfd
  have clo2 := f2.se.clo (names := iscope.names) fun x hm => by rw [← f2.kn x]; exact freeCel_mem hfree hm
  refine WP.ret1 (WP.ifexp ?_)
  by_cases hnil : ds = []
  · have htr : truth (.lst (ds.map D.int)) = some false := by subst hnil; rfl
    refine okT scope.names _ te _ false (hte fa) htr _ _ _ env _ _ rmL f2.kn f2.se fun G3 s3 k3 => ?_
    rw [if_neg (by simp)]
    refine okE scope.names _ oe _ (hoe fa) _ _ _ env _ _ rmL f2.kn (f2.se.ke k3) fun v4 G4 s4 k4 r4 => ?_
    refine hq1 _ _ (hQ _ _ _ (Fm.ke_of hO hV kx (t2.trans (Tr.ke f2.st (k3.trans k4)))) ?_)
    subst hnil
    exact r4.intK fun _ => .int _ _
  · have hlen0 : 0 < ds.length := List.length_pos_iff.mpr hnil
    have hl63 : ((ds.map D.int).length : Int) < 2 ^ 63 := by rw [List.length_map]; omega
    have htr : truth (.lst (ds.map D.int)) = some true := by
      rw [truth_lst hl63]
      cases ds with
      | nil => exact absurd rfl hnil
      | cons _ _ => rfl
    refine okT scope.names _ te _ true (hte fa) htr _ _ _ env _ _ rmL f2.kn f2.se fun G3 s3 k3 => ?_
    rw [if_pos rfl]
    refine callCel_ok okE rmL f2.kn (f2.se.ke k3) (by rw [hx]; rfl) (by rw [look_put, if_pos rfl]) h1 h2 (he fa) fun vs4 G4 s4 k4 r4 => ?_
    have k04 := k3.trans k4
    have fc4 := fci.ke k04
    refine ⟨fc4.isFn, ?_⟩
    have hseg : seg ds 0 ds.length = ds := by unfold seg; simp
    refine d2i_inner (kk := kk) (mm := mm) nv hisc hsL hsR (fun v w => by rw [hfd]; exact hibind doc pm c' ctv _ v w) hib hds hlen hn hk h1 h2 (ht fa) (hr fa) (hm fa) ds.length 0 ds.length hlen0 (Nat.le_refl _) (by omega) _ G4 s4 vs4 _ _ (rm1.less (by omega)) (f2.st.ke k04) fc4 (clo2.ke k04 f2.st) (by simpa using r4) fun v5 G5 s5 k5 r5 => ?_
    rw [hseg] at r5
    refine hq1 _ _ (hQ _ _ _ (Fm.ke_of hO hV kx (t2.trans (Tr.ke f2.st (k04.trans k5)))) ?_)
    exact r5.intK fun _ => .int _ _
end
end Mine

end
section
open PySem PySem.W PyProof.Rows
set_option Elab.async false
namespace Mine

/-! a number's digits, the lowest first -/
noncomputable def digs (n : Nat) : Nat → Nat → List Int
  | 0, _ => []
  | k + 1, x => ((x % 2 ^ n : Nat) : Int) :: digs n k (x / 2 ^ n)
theorem digs_len (n : Nat) : ∀ (k x : Nat), (digs n k x).length = k
  | 0, _ => rfl
  | k + 1, x => by simp [digs, digs_len n k]
theorem digs_one {n x : Nat} (h : x < 2 ^ n) : digs n 1 x = [(x : Int)] := by simp [digs, Nat.mod_eq_of_lt h]
theorem digs_split (n : Nat) : ∀ (j k x : Nat), digs n (j + k) x = digs n j (x % 2 ^ (n * j)) ++ digs n k (x / 2 ^ (n * j))
  | 0, k, x => by simp [digs]
  | j + 1, k, x => by
    have e : n * (j + 1) = n + n * j := by rw [Nat.mul_add, Nat.mul_one, Nat.add_comm]
    rw [show j + 1 + k = (j + k) + 1 by omega]
    simp only [digs]
    rw [digs_split n j k (x / 2 ^ n), e, Nat.pow_add, Nat.mod_mul_right_div_self, Nat.mod_mod_of_dvd _ (Nat.dvd_mul_right _ _), Nat.div_div_eq_div_mul]
    rfl
noncomputable def rep (ys : List Int) (L : Nat) (ds : List Int) : List Int := ys.take L ++ ds ++ ys.drop (L + ds.length)
theorem rep_len {ys : List Int} {L : Nat} {ds : List Int} (h : L + ds.length ≤ ys.length) : (rep ys L ds).length = ys.length := by
  unfold rep; simp; omega
theorem rep_set {ys : List Int} {L : Nat} {x : Int} (h : L < ys.length) : ys.set L x = rep ys L [x] := by
  unfold rep
  rw [List.set_eq_take_append_cons_drop, if_pos h]; simp
theorem rep_rep {ys : List Int} {L : Nat} {d1 d2 : List Int} (h : L + d1.length + d2.length ≤ ys.length) : rep (rep ys L d1) (L + d1.length) d2 = rep ys L (d1 ++ d2) := by
  unfold rep
  have h1 : (ys.take L ++ d1).length = L + d1.length := by simp; omega
  rw [List.take_append_of_le_length (Nat.le_of_eq h1.symm), List.take_of_length_le (Nat.le_of_eq h1), List.drop_append, h1, List.drop_eq_nil_of_le (by rw [h1]; omega), List.nil_append, List.drop_drop]
  have e : L + d1.length + (L + d1.length + d2.length - (L + d1.length)) = L + (d1.length + d2.length) := by omega
  simp only [List.append_assoc, List.length_append, e]
theorem xor_low {x k : Nat} : Builtin.bitXor (x : Int) (((x : Int).fdiv (2 ^ k)) * 2 ^ k) = ((x % 2 ^ k : Nat) : Int) := by
  have e : ((x : Int).fdiv (2 ^ k)) * 2 ^ k = ((x / 2 ^ k * 2 ^ k : Nat) : Int) := by
    rw [Int.fdiv_eq_ediv_of_nonneg _ (Int.le_of_lt (two_pow_pos k))]
    simp
  rw [e, bitXor_and]
  have e2 : Builtin.bitAnd (x : Int) ((x / 2 ^ k * 2 ^ k : Nat) : Int) = ((x / 2 ^ k * 2 ^ k : Nat) : Int) := by
    unfold Builtin.bitAnd
    have h1 : decide ((0 : Int) ≤ (x : Int)) = true := decide_eq_true (Int.natCast_nonneg _)
    have h2 : decide ((0 : Int) ≤ ((x / 2 ^ k * 2 ^ k : Nat) : Int)) = true := decide_eq_true (Int.natCast_nonneg _)
    rw [h1, h2]
    simp only [Int.toNat_natCast]
    congr 1
    apply Nat.eq_of_testBit_eq
    intro i
    rw [Nat.testBit_and, Nat.testBit_mul_two_pow, Nat.testBit_div_two_pow]
    by_cases h : k ≤ i
    · rw [show i - k + k = i by omega]; simp [h]
    · simp [h]
  rw [e2]
  have h3 := Nat.div_add_mod x (2 ^ k)
  have h4 : x / 2 ^ k * 2 ^ k = 2 ^ k * (x / 2 ^ k) := Nat.mul_comm _ _
  omega
theorem fdiv_nat {x k : Nat} : (x : Int).fdiv (2 ^ k) = ((x / 2 ^ k : Nat) : Int) := by
  rw [Int.fdiv_eq_ediv_of_nonneg _ (Int.le_of_lt (two_pow_pos k))]
  simp

section
variable {B : Bs} {A : Around} {O0 : List Addr} {G G' : Gh} {s s' : Shared} {sc : Kd} {env : Env} {V : List Addr} {Γ : Gm} {E : Value → Shared → Prop} {l : Addr}
theorem RdL.ints {h h' : Heap} : ∀ {ys : List Int} {vs : List Value}, RdL G h vs (ys.map D.int) → RdL G' h' vs (ys.map D.int)
  | [], _, r => r.nilK .nil
  | y :: ys, _, r => by
    rw [List.map_cons] at r ⊢
    exact r.consK fun _ _ a b => a.intK fun _ => .cons (.int _ _) (RdL.ints b)
theorem RdL.setAt {h : Heap} : ∀ {vs : List Value} {ds : List D} {i : Nat} {v : Value} {d : D}, RdL G h vs ds → Rd G h v d → RdL G h (vs.set i v) (ds.set i d)
  | _, _, _, _, _, .nil, _ => .nil
  | _, _, 0, _, _, .cons _ b, r => .cons r b
  | _, _, i + 1, _, _, .cons a b, r => .cons a (RdL.setAt b r)

/-- another's thing is turned -/
theorem Fm.kwO (f : Fm B O0 G s sc env V Γ []) (k : Kw B [l] G s G' s') (hl : l ∈ O0) (h0 : B.h0.get? l = none) (hc : ∀ y c, env.cells.lookup y = some c → c ≠ l) : Fm B O0 G' s' sc env V Γ [] := by
  obtain ⟨Γp, α, β, se, h1, _, _⟩ := f.has
  have hlO := f.oo l hl
  have hW : ∀ a ∈ [l], a ∈ G.O := fun a ha => by rw [List.mem_singleton.mp ha]; exact hlO
  have h0' : ∀ a ∈ [l], B.h0.get? a = none := fun a ha => by rw [List.mem_singleton.mp ha]; exact h0
  have hloc : env.locals ∉ [l] := fun q => f.vo _ f.ow.loc (List.mem_singleton.mp q ▸ hl)
  have hc' : ∀ y c, env.cells.lookup y = some c → c ∉ [l] := fun y c hy q => hc y c hy (List.mem_singleton.mp q)
  exact ⟨f.vo, fun a ha => k.o ▸ f.oo a ha, f.tb, fun a ha => f.nw a (k.o ▸ ha), f.ow.kw k fun x c _ hx => hc' x c hx, f.kn, fun y c hy => Nat.lt_of_lt_of_le (f.cz y c hy) k.sz, Γp, α, β, se.kw k hW h0' hloc hc', h1, fun _ _ h => (nomatch h), fun _ _ _ _ h => (nomatch h)⟩

theorem WP.exprNone {e : Expr} {p : Pos} {Q : Flow → Shared → Prop} (hi : interactive env = false) (hs : swapsWith e none p.line env = Pure.pure false) (hn : ∀ v : Value, v = .none → dropValue e p v = Pure.pure Flow.next)
    (h : WP B A (eval e env) (fun v s1 => v = .none ∧ Q .next s1) E s) : WP B A (exec (.Expr e p) env) Q E s := by
  rw [exec_Expr env _ _ hi hs]
  refine WP.bind (WP.standAt (WP.bind (h.post fun v s1 q => ?_)))
  obtain ⟨rfl, q⟩ := q
  rw [hn _ rfl]
  exact WP.pure q
end

section
variable {B : Bs} {L0 : Nat} {X : Nv} {q kk mm : Nat}

theorem i2d_inner (nv : NvOk B L0 X) {fa l : Addr} {body : List Stmt} {scope : Scope} {cl : List (Str × Addr)} {fd : FuncData} {Γc : Gm} {xx Lx Rx nm xn : Str} {t ce ie a1 a2 a3 a4 a5 a6 : Expr} {s2 s3 s4 s5 : Stmt} {q3 q4 q5 q6 pi p1 p2 p3 p4 p5 p6 : Pos} {n N : Nat}
    (hsc : scOk scope = true) (hsx : storable scope.names xx = true) (hsL : storable scope.names Lx = true) (hsR : storable scope.names Rx = true) (hbind : ∀ u v w, bindArgs fd ⟨[u, v, w], []⟩ = pure [(xx, u), (Lx, v), (Rx, w)])
    (hb : body = [.If t [.Assign [.Subscript ce ie q3] (.Name xn q4) q5, .Return none q6] [] pi, s2, s3, s4, s5] ++ [.Expr (.Call (.Name nm p1) [a1, a2, a3] [] p2) p3, .Expr (.Call (.Name nm p4) [a4, a5, a6] [] p5) p6])
    (hN : N ≤ 64) (hn : n ≤ 2 ^ 14) (hk : kc (look scope.names nm) = .cel) (h1 : strEq nm "__debug__" = false) (h2 : strEq nm "__classdict__" = false) (hl0 : B.h0.get? l = none)
    (ht : ∀ x L R : Int, testD (evE X q scope.names) (bindPs Γc [xx, Lx, Rx] [.int x, .int L, .int R]) [] t = some (L + 1 == R, bindPs Γc [xx, Lx, Rx] [.int x, .int L, .int R], []))
    (hce : ∀ x L R : Int, evE X q scope.names (bindPs Γc [xx, Lx, Rx] [.int x, .int L, .int R]) ce = some (.ref l))
    (hie : ∀ x L R : Int, evE X q scope.names (bindPs Γc [xx, Lx, Rx] [.int x, .int L, .int R]) ie = some (.int L))
    (hve : ∀ x L R : Int, evE X q scope.names (bindPs Γc [xx, Lx, Rx] [.int x, .int L, .int R]) (.Name xn q4) = some (.int x))
    (hm : ∀ x L R : Int, 0 ≤ L → L < R → R ≤ 64 → 0 ≤ ((L + R).fdiv (2 ^ 1) - L) * n → (Builtin.Int.intBits (x.fdiv (2 ^ (((L + R).fdiv (2 ^ 1) - L) * n).toNat)) : Int) + ((L + R).fdiv (2 ^ 1) - L) * n ≤ 2 ^ 27 →
      ∃ Γ', evSs (evS noHk (evE X q) kk (mm + 2)) scope.names [s2, s3, s4, s5] (bindPs Γc [xx, Lx, Rx] [.int x, .int L, .int R]) [] = some (.nxt, Γ', []) ∧
      each (evE X q scope.names Γ') [a1, a2, a3] = some [.int (Builtin.bitXor x (x.fdiv (2 ^ (((L + R).fdiv (2 ^ 1) - L) * n).toNat) * 2 ^ (((L + R).fdiv (2 ^ 1) - L) * n).toNat)), .int L, .int ((L + R).fdiv (2 ^ 1))] ∧
      each (evE X q scope.names Γ') [a4, a5, a6] = some [.int (x.fdiv (2 ^ (((L + R).fdiv (2 ^ 1) - L) * n).toNat)), .int ((L + R).fdiv (2 ^ 1)), .int R] ∧ look Γ' nm = some (.ref fa)) :
    ∀ (k L R x : Nat), L < R → R ≤ N → R - L ≤ k → x < 2 ^ (n * (R - L)) → ∀ A G s vs ys items nn Q E, Room (L0 + k + 1) A → St B G s → FcAt B s.heap fa body scope cl fd → Clo B G s scope.names cl Γc → RdL G s.heap vs [.int (x : Int), .int (L : Int), .int (R : Int)] →
      l ∈ G.O → LstAt s.heap l items nn → RdL G s.heap items.toList (ys.map D.int) → ys.length = N → (∀ y c, cl.lookup y = some c → c ≠ l) →
      (∀ G' s' items' nn', Kw B [l] G s G' s' → LstAt s'.heap l items' nn' → RdL G' s'.heap items'.toList ((rep ys L (digs n (R - L) x)).map D.int) → Q .none s') → WP B A (call (.ref fa) vs) Q E s := by
  intro k
  induction k with
  | zero => intro L R x h1 _ h3; exact absurd h1 (Nat.not_lt.mpr (Nat.le_of_sub_eq_zero (Nat.le_zero.mp h3)))
  | succ k ih =>
    intro L R x hLR hR hk' hx A G s vs ys items nn Q E rm st fc clo r hlO hl hys hyl hcl hQ
    obtain ⟨u, v, w, rfl, ru, rv, rw'⟩ := r.three
    have hlt : l ∉ B.tb := not_tb hl0
    refine enter_fc (m := L0 + k + 1) fc hsc (hbind u v w) ?_ st clo (ds := [.int (x : Int), .int (L : Int), .int (R : Int)]) (.cons ru (.cons rv (.cons rw' .nil))) rm fun env G1 s1 V Q1 E1 f1 kx hO hV _ _ hcells hq1 hq2 rm1 => ?_
    · intro p hp
      rcases List.mem_cons.mp hp with q | hp
      · rw [q]; exact hsx
      rcases List.mem_cons.mp hp with q | q
      · rw [q]; exact hsL
      · rw [List.mem_singleton.mp q]; exact hsR
    have okS := evS_ok (H := noHk) nv noHk_ok q kk (mm + 2)
    have okE := (evE_ok nv q).1
    have okT := (evE_ok nv q).2
    have rmL : Room L0 (A.deeper env) := rm1.less (by omega)
    have hl1O : l ∈ G1.O := (hO l).mpr (.inr hlO)
    have hl1 : LstAt s1.heap l items nn := kx.kw.kp l _ (fun q => hlt (by simpa using q)) hl
    have hsl : l < s.heap.objs.size := Heap.lt_size hl
    have hc1 : ∀ y c, env.cells.lookup y = some c → c ≠ l := fun y c hy e => (hcells y c hy).elim (fun q => absurd (hV c q) (by rw [e]; exact Nat.not_le.mpr hsl)) fun q => hcl y c q e
    have kx1 : Kx B [l] G s G1 s1 := kx.mono fun _ h => nomatch h
    have hWn : ∀ a ∈ Wn G1 G.O, a ∈ [l] ∨ s.heap.objs.size ≤ a := fun a ha => by
      obtain ⟨g1, g2⟩ := mem_Wn.mp ha
      exact .inr (((hO a).mp g1).elim (hV a) fun q => absurd q g2)
    by_cases hbase : L + 1 = R
    · subst hbase
      rw [hb]
      have htest : ((L : Int) + 1 == ((L + 1 : Nat) : Int)) = true := end_yes
      refine ⟨@wpAny_execs_cons _ _ _ _ _ _ _ _ (@wpAny_If _ _ _ _ _ _ _ _ _ _ (test_okS okT rmL f1 (ht _ _ _) fun G2 s2 t2 f2 => ?_).w)⟩
      rw [htest, if_pos rfl]
      refine @wpAny_execs_cons _ _ _ _ _ _ _ _ (@wpAny_Assign_Subscript _ _ _ _ _ _ _ _ _ _ _ (okE scope.names _ (.Name xn q4) _ (hve _ _ _) _ G2 s2 env _ _ rmL f2.kn f2.se fun v3 G3 s3 k3 r3 => (okE scope.names _ ce _ (hce _ _ _) _ G3 s3 env _ _ rmL f2.kn (f2.se.ke k3) fun v4 G4 s4 k4 r4 => (okE scope.names _ ie _ (hie _ _ _) _ G4 s4 env _ _ rmL f2.kn ((f2.se.ke k3).ke k4) fun v5 G5 s5 k5 r5 => ?_).w).w).w rfl)
      refine r4.refK (r5.intK fun t5 => ?_)
      have k35 := (k3.trans k4).trans k5
      have tt := t2.trans (Tr.ke f2.st k35)
      have hl5 : LstAt s5.heap l items nn := tt.kx.kw.kp l _ (fun q => (List.mem_append.mp q).elim (fun q => (mem_Wn.mp q).2 hlO) hlt) hl1
      have hisz : items.size = N := by rw [← hyl, hys.size, List.length_map]
      have st5 := f2.st.ke k35
      refine @ki_setAt _ _ _ _ _ _ _ _ _ _ _ _ hl5 (Int.natCast_nonneg _) (idx_lt hR hN) (by rw [hisz]; exact Int.ofNat_lt.mpr hR) ?_
      have hs' := Heap.SameBut.update s5.heap l (Obj.mapSeq (·.setIfInBounds ((L : Int)).toNat v3))
      have kw5 : Kw B [l] G5 s5 G5 { s5 with heap := s5.heap.update l (Obj.mapSeq (·.setIfInBounds ((L : Int)).toNat v3)) } := Kw.same1 st5 (List.mem_singleton.mpr rfl) hlt hs' (Nat.le_refl _) hl5.nc
      refine @wpAny_execs_cons _ _ _ _ _ _ _ _ (@wpAny_Return_none _ _ _ _ _ _ _ ?_)
      have kt := (kx1.trans tt.kx hWn).trans (Kx.of_kw st5 kw5) fun a ha => .inl ha
      refine hq1 _ _ (hQ _ _ (items.setIfInBounds ((L : Int)).toNat v3) _ kt.kw (PySem.IsL.update hl5 _) ?_)
      rw [Nat.add_sub_cancel_left, digs_one (by rw [Nat.add_sub_cancel_left, Nat.mul_one] at hx; exact hx), ← rep_set (hyl ▸ hR), Array.toList_setIfInBounds, List.map_set, Int.toNat_natCast]
      exact RdL.setAt (RdL.ints hys) (r3.intK fun t => .int _ t)
    · have htest : ((L : Int) + 1 == (R : Int)) = false := end_no hbase
      have md := mid_of hLR hbase hk'
      have hmm := hm x L R (Int.natCast_nonneg _) (Int.ofNat_lt.mpr hLR) (int_le64 hR hN)
      rw [mid_int (Nat.le_of_lt hLR), mid_sh (Nat.le_of_lt md.lm), Int.toNat_natCast, xor_low, fdiv_nat] at hmm
      generalize (L + R) / 2 = M at *
      have hLM := md.lm
      have hMR := md.mr
      have hMN : M ≤ N := Nat.le_trans (Nat.le_of_lt hMR) hR
      have hup : x / 2 ^ (n * (M - L)) < 2 ^ (n * (R - M)) := by
        rw [Nat.div_lt_iff_lt_mul (Nat.two_pow_pos _), ← Nat.pow_add, ← Nat.mul_add]
        rw [md.sum]; exact hx
      have hlo : x % 2 ^ (n * (M - L)) < 2 ^ (n * (M - L)) := Nat.mod_lt _ (Nat.two_pow_pos _)
      have hbits : Builtin.Int.intBits ((x / 2 ^ (n * (M - L)) : Nat) : Int) ≤ n * (R - M) := intBits_le (Int.natCast_nonneg _) (by
        have : ((x / 2 ^ (n * (M - L)) : Nat) : Int) < ((2 ^ (n * (R - M)) : Nat) : Int) := Int.ofNat_lt.mpr hup
        simpa using this)
      have h3 : n * (R - M) ≤ 2 ^ 14 * 64 := Nat.mul_le_mul hn (sub_64 hR hN)
      have h4 : n * (M - L) ≤ 2 ^ 14 * 64 := Nat.mul_le_mul hn (sub_64 hMN hN)
      obtain ⟨Γ', hss, ha1, ha2, hfn⟩ := hmm (Int.natCast_nonneg _) (bits_sum hbits h3 h4)
      rw [hb]
      have hpre : evSs (evS noHk (evE X q) kk (mm + 2)) scope.names [.If t [.Assign [.Subscript ce ie q3] (.Name xn q4) q5, .Return none q6] [] pi, s2, s3, s4, s5] (bindPs Γc [xx, Lx, Rx] [.int (x : Int), .int (L : Int), .int (R : Int)]) [] = some (.nxt, Γ', []) := by
        rw [evSs_cons (Γ1 := bindPs Γc [xx, Lx, Rx] [.int (x : Int), .int (L : Int), .int (R : Int)]) (Ω1 := [])]
        · exact hss
        · rw [evS_If (ht _ _ _), htest]; rfl
      refine ss_then okS rmL hpre f1 fun G2 s2 t2 f2 => ?_
      have hfa : fa ∉ Wn G1 G.O := fun h => by
        have := mem_Wn.mp h
        rcases (hO fa).mp this.1 with q | q
        · obtain ⟨o, ho, _⟩ := fc.ob
          exact Nat.not_lt.mpr (hV fa q) (Heap.lt_size ho)
        · exact this.2 q
      have fal : fa ∉ [l] := fun q => by
        obtain ⟨o, ho, hd⟩ := fc.ob
        rw [List.mem_singleton.mp q, hl] at ho; cases ho; cases hd
      have fc2 : FcAt B s2.heap fa body scope cl fd := (fc.kx kx fun h => nomatch h).kx t2.kx hfa
      have clo2 : Clo B G2 s2 scope.names cl Γc := (clo.kx kx st (fun _ h => nomatch h) fun _ _ _ h => nomatch h).kx t2.kx f1.st (fun a ha => (mem_Wn.mp ha).1) fun x c hc h => by
        have := mem_Wn.mp h
        rcases (hO c).mp this.1 with q | q
        · exact Nat.not_lt.mpr (hV c q) (clo.old x c (mem_of_lookup hc))
        · exact this.2 q
      have hl2 : LstAt s2.heap l items nn := t2.kx.kw.kp l _ (fun q => (List.mem_append.mp q).elim (fun q => (mem_Wn.mp q).2 hlO) hlt) hl1
      have kx2 := kx1.trans t2.kx hWn
      have hcl' : ∀ y c, cl.lookup y = some c → c ∉ [l] := fun y c hy q => hcl y c hy (List.mem_singleton.mp q)
      have inl : ∀ a ∈ [l], a ∈ [l] ∨ s.heap.objs.size ≤ a := fun a ha => .inl ha
      have hi : interactive env = false := by unfold interactive; rw [f2.se.kind]; rfl
      have hl2O : l ∈ G2.O := f2.oo l hlO
      refine WP.exec1 (WP.exprNone hi rfl (fun v hv => by rw [hv]; rfl) (callCel_ok okE rmL f2.kn f2.se hk hfn h1 h2 ha1 fun vs3 G3 s3 k3 r3 => ?_))
      have fc3 := fc2.ke k3
      have hl3 : LstAt s3.heap l items nn := lst_kw hl2 k3 (fun h => nomatch h) hlt
      refine ⟨fc3.isFn, ih L M _ hLM hMN md.k2 hlo _ G3 s3 vs3 ys items nn _ _ (rm1.less (by omega)) (f2.st.ke k3) fc3 (clo2.ke k3 f2.st) r3 (k3.o ▸ hl2O) hl3 (RdL.ints hys) hyl hcl fun G4 s4 items4 nn4 k4 hl4 hys4 => ⟨rfl, rfl, ?_⟩⟩
      have st3 := f2.st.ke k3
      have f3 := f2.ke k3
      have f4 := f3.kwO k4 hlO hl0 hc1
      have hl4O := f4.oo l hlO
      have in3 : ∀ a ∈ [l], a ∈ G3.O := fun a ha => by rw [List.mem_singleton.mp ha]; exact k3.o ▸ hl2O
      have fc4 := fc3.kw k4 fal
      have clo4 := (clo2.ke k3 f2.st).kw k4 st3 in3 hcl'
      have kx4 := (kx2.ke k3 f2.st).trans (Kx.of_kw st3 k4) inl
      refine WP.exec1 (WP.exprNone hi rfl (fun v hv => by rw [hv]; rfl) (callCel_ok okE rmL f4.kn f4.se hk hfn h1 h2 ha2 fun vs5 G5 s5 k5 r5 => ?_))
      have fc5 := fc4.ke k5
      have hl5 : LstAt s5.heap l items4 nn4 := lst_kw hl4 k5 (fun h => nomatch h) hlt
      refine ⟨fc5.isFn, ih M R _ hMR hR md.k1 hup _ G5 s5 vs5 _ items4 nn4 _ _ (rm1.less (by omega)) (f4.st.ke k5) fc5 (clo4.ke k5 f4.st) r5 (k5.o ▸ hl4O) hl5 (RdL.ints hys4) ?_ hcl fun G6 s6 items6 nn6 k6 hl6 hys6 => ⟨rfl, rfl, ?_⟩⟩
      · rw [rep_len (by rw [digs_len, md.add, hyl]; exact hMN)]; exact hyl
      · have kx6 := (kx4.ke k5 f4.st).trans (Kx.of_kw (f4.st.ke k5) k6) inl
        refine ⟨@wpAny_execs_nil _ _ _ _ _ _ (hq2 _ (hQ _ _ items6 nn6 kx6.kw hl6 ?_))⟩
        have e : rep (rep ys L (digs n (M - L) (x % 2 ^ (n * (M - L))))) M (digs n (R - M) (x / 2 ^ (n * (M - L)))) = rep ys L (digs n (R - L) x) := by
          have e1 := rep_rep (ys := ys) (L := L) (d1 := digs n (M - L) (x % 2 ^ (n * (M - L)))) (d2 := digs n (R - M) (x / 2 ^ (n * (M - L)))) (by rw [digs_len, digs_len, md.add, hyl, Nat.add_sub_cancel' (Nat.le_of_lt hMR)]; exact hR)
          rw [digs_len, md.add] at e1
          rw [e1, ← digs_split, md.sum']
        rw [e] at hys6
        exact RdL.ints hys6
end
end Mine

end
section
open PySem PySem.W PyProof.Rows
set_option Elab.async false
namespace Mine

theorem digs_zero (n : Nat) : ∀ k : Nat, digs n k 0 = List.replicate k 0
  | 0 => rfl
  | k + 1 => by simp [digs, digs_zero n k, List.replicate_succ]
theorem rep_all {ys d : List Int} (h : d.length = ys.length) : rep ys 0 d = d := by unfold rep; simp [h]

section
variable {B : Bs} {A : Around} {G : Gh} {s : Shared} {Q : Value → Shared → Prop} {E : Value → Shared → Prop}
theorem mulLst_new {a1 : Addr} {i1 : Array Value} {n1 : Nat} {d1 : List D} {i : Int} {t : Tok} (h1 : LstAt s.heap a1 i1 n1)
    (r1 : RdL G s.heap i1.toList d1) (hs : -(2 ^ 63 : Int) ≤ i ∧ i < 2 ^ 63 ∧ d1.length * i.toNat ≤ 2 ^ 24)
    (hQ : ∀ items' : Array Value, RdL G s.heap items'.toList (List.replicate i.toNat d1).flatten → Q (.ref s.heap.objs.size) { s with heap := s.heap.push { cls := .type "list", data := .seq items' } }) : WP B A (binaryOp .Mult (.ref a1) (.int i t)) Q E s := by
  have e1 : i1.size = d1.length := by rw [← r1.length, Array.length_toList]
  refine ⟨wpAny_binaryOp_repeat_ref (T := "list") (U := "int") (by decide) ⟨_, h1, rfl⟩ (fun s' => typeIs_int s' i t) noFill_list_mul F.fills_int_mul F.slot_int_rmul repeat_list F.slot_int_index.lookup
    (call_meets F.slot_int_rmul (typeIs_int s i t) F.entry_int_rmul (F.args_int_rmul_2 _ _) (int___rmul___int_list i t a1 i1 n1)
      ⟨h1, rfl, ⟨_, h1, rfl⟩, call_meets F.slot_list_mul ⟨_, h1, rfl⟩ F.entry_list_mul (F.args_list_mul_2 _ _)
        (AutoListH.list___mul___list_int_3 a1 i1 n1 i t (by simp [Builtin.List.listFitsIndex]; omega) (by rw [e1]; omega) (by rw [e1]; simp [Builtin.List.listTooLong, sizeLine]; omega))
        ⟨h1, hQ _ ?_⟩⟩)⟩
  rw [foldl_arr, List.map_replicate]
  by_cases hm : i1.isEmpty = true
  · have hn : d1 = [] := by
      have : i1.size = 0 := by simpa using hm
      rw [e1] at this; exact List.length_eq_zero_iff.mp this
    subst hn
    simp only [hm, if_true, List.replicate_zero, List.flatten_nil]
    have : (List.replicate i.toNat ([] : List D)).flatten = [] := by simp
    rw [this]; exact .nil
  · simp only [hm]
    exact r1.flat _

/-- a thing of the frame's lent to the evaluator -/
theorem Sees.lend {env : Env} {Γ : Gm} {x : Str} {l : Addr} {items : Array Value} {nn : Nat} {ds : List D} (se : Sees B G s env Γ) (hl : LstAt s.heap l items nn) (hd : RdL G s.heap items.toList ds) (hx : look Γ x = some (.ref l)) (hlt : l ∉ B.tb) :
    Sees B { G with O := G.O.filter (fun a => decide (a ≠ l)) } s env (put Γ x (.lst ds)) := by
  have hsub : ∀ a ∈ G.O.filter (fun a => decide (a ≠ l)), a ∈ G.O := fun a ha => (List.mem_filter.mp ha).1
  have ht : ∀ a ∈ B.tb, a ∈ G.O.filter (fun a => decide (a ≠ l)) := fun a ha => List.mem_filter.mpr ⟨se.st.sub a ha, by simp; intro q; exact hlt (q ▸ ha)⟩
  have up := Up.free (G := G) (h := s.heap) hsub
  have st' := se.st.free hsub ht
  have se' := se.gh st' up
  have rl : Rd { G with O := G.O.filter (fun a => decide (a ≠ l)) } s.heap (.ref l) (.lst ds) := .lst (fun q => by have := (List.mem_filter.mp q).2; simp at this) hl (hd.up up)
  exact se'.know hx rl
theorem Kw.unlend {W : List Addr} {O' : List Addr} {G1 : Gh} {s1 : Shared} (k : Kw B W { G with O := O' } s G1 s1) : Kw B W G s { G1 with O := G.O } s1 := ⟨k.same, k.kp, k.tg, k.cd, k.sz, rfl, k.n, k.τ, k.tk⟩
theorem Clo.less {names : Kd} {cl : List (Str × Addr)} {Γ Γ' : Gm} (c : Clo B G s names cl Γ) (h : ∀ x d, look Γ' x = some d → look Γ x = some d) : Clo B G s names cl Γ' :=
  ⟨c.old, c.nt, fun x hx => let ⟨a, ha, hd⟩ := c.has x hx; ⟨a, ha, fun d hxd => hd d (h x d hxd)⟩, fun x d hx => c.only x d (h x d hx)⟩
end

theorem flat_one (d : D) : ∀ N : Nat, (List.replicate N [d]).flatten = List.replicate N d
  | 0 => rfl
  | N + 1 => by rw [List.replicate_succ, List.replicate_succ, List.flatten_cons, flat_one d N]; rfl

section
variable {B : Bs} {L0 : Nat} {X : Nv} {q kk mm : Nat}
theorem i2d_ok (nv : NvOk B L0 X) {a c P : Addr} {body ibody : List Stmt} {scope iscope : Scope} {fd : FuncData} {params : Arguments} {ax nx an nm qual : Str} {ipos pa lp bp ap p1' p2' p3' p4' p5' ip : Pos} {ze cnt te e1 e2 e3 : Expr}
    (fc0 : FcAt B B.h0 a body scope [] fd) (hsc : scOk scope = true) (hnf : noFree scope.names = true) (hsa : storable scope.names ax = true) (hsn : storable scope.names nx = true) (hsan : storable scope.names an = true) (hbind : ∀ v w, bindArgs fd ⟨[v, w], []⟩ = pure [(ax, v), (nx, w)])
    (hcode : fd.code = .ref c) (C : CodeHd B.h0 c P) (hP : P ∈ B.tb) (hdn : B.dn P = (ipos, qual)) (hq : (fd.qualname ++ ".<locals>." ++ nm : Str) = qual) (hbm : B.h0.BuiltinsAt B.mg P)
    (hb : body = [.Assign [.Name an pa] (.BinOp (.List [ze] lp) .Mult cnt bp) ap, .FunctionDef nm params ibody [] none [] iscope none nm ipos, .If te [.Expr (.Call (.Name nm p1') [e1, e2, e3] [] p2') p3'] [] ip, .Return (some (.Name an p4')) p5'])
    (hd0 : params.defaults = []) (hk0 : params.kw_defaults = []) (ha : ∀ env, annTrees params none env = []) (hfree : freeCel scope.names iscope.names = true) (hx : look scope.names nm = some .cell)
    {x n N : Nat} (hxN : x < 2 ^ (n * N)) (hN : N ≤ 64) (hn : n ≤ 2 ^ 14)
    (hze : evE X q scope.names (bindPs [] [ax, nx] [.int x, .int n]) (.List [ze] lp) = some (.lst [.int 0]))
    (hcnt : evE X q scope.names (bindPs [] [ax, nx] [.int x, .int n]) cnt = some (.int N))
    (hte : ∀ l fa, evE X q scope.names (put (put (bindPs [] [ax, nx] [.int x, .int n]) an (.ref l)) nm (.ref fa)) te = some (.int x))
    (he : ∀ l fa (zs : List D), zs.length = N → each (evE X q scope.names (put (put (put (bindPs [] [ax, nx] [.int x, .int n]) an (.ref l)) nm (.ref fa)) an (.lst zs))) [e1, e2, e3] = some [.int x, .int 0, .int zs.length])
    (hra : ∀ l fa, evE X q scope.names (put (put (bindPs [] [ax, nx] [.int x, .int n]) an (.ref l)) nm (.ref fa)) (.Name an p4') = some (.ref l))
    (hne : an ≠ nm)
    {xx Lx Rx xn : Str} {t ce ie a1 a2 a3 a4 a5 a6 : Expr} {s2 s3 s4 s5 : Stmt} {q3 q4 q5 q6 pi p1 p2 p3 p4 p5 p6 : Pos}
    (hisc : scOk iscope = true) (hsx : storable iscope.names xx = true) (hsL : storable iscope.names Lx = true) (hsR : storable iscope.names Rx = true)
    (hibind : ∀ doc pm c' ctv cl u v w, bindArgs (fnX nm qual params ibody iscope cl .none .none doc pm none (.ref c') ctv) ⟨[u, v, w], []⟩ = pure [(xx, u), (Lx, v), (Rx, w)])
    (hib : ibody = [.If t [.Assign [.Subscript ce ie q3] (.Name xn q4) q5, .Return none q6] [] pi, s2, s3, s4, s5] ++ [.Expr (.Call (.Name nm p1) [a1, a2, a3] [] p2) p3, .Expr (.Call (.Name nm p4) [a4, a5, a6] [] p5) p6])
    (hk : kc (look iscope.names nm) = .cel) (h1 : strEq nm "__debug__" = false) (h2 : strEq nm "__classdict__" = false)
    (ht : ∀ l fa, ∀ x' L R : Int, testD (evE X q iscope.names) (bindPs (freeG (put (put (bindPs [] [ax, nx] [.int x, .int n]) an (.ref l)) nm (.ref fa)) iscope.names) [xx, Lx, Rx] [.int x', .int L, .int R]) [] t = some (L + 1 == R, bindPs (freeG (put (put (bindPs [] [ax, nx] [.int x, .int n]) an (.ref l)) nm (.ref fa)) iscope.names) [xx, Lx, Rx] [.int x', .int L, .int R], []))
    (hce : ∀ l fa, ∀ x' L R : Int, evE X q iscope.names (bindPs (freeG (put (put (bindPs [] [ax, nx] [.int x, .int n]) an (.ref l)) nm (.ref fa)) iscope.names) [xx, Lx, Rx] [.int x', .int L, .int R]) ce = some (.ref l))
    (hie : ∀ l fa, ∀ x' L R : Int, evE X q iscope.names (bindPs (freeG (put (put (bindPs [] [ax, nx] [.int x, .int n]) an (.ref l)) nm (.ref fa)) iscope.names) [xx, Lx, Rx] [.int x', .int L, .int R]) ie = some (.int L))
    (hve : ∀ l fa, ∀ x' L R : Int, evE X q iscope.names (bindPs (freeG (put (put (bindPs [] [ax, nx] [.int x, .int n]) an (.ref l)) nm (.ref fa)) iscope.names) [xx, Lx, Rx] [.int x', .int L, .int R]) (.Name xn q4) = some (.int x'))
    (hm : ∀ l fa, ∀ x' L R : Int, 0 ≤ L → L < R → R ≤ 64 → 0 ≤ ((L + R).fdiv (2 ^ 1) - L) * n → (Builtin.Int.intBits (x'.fdiv (2 ^ (((L + R).fdiv (2 ^ 1) - L) * n).toNat)) : Int) + ((L + R).fdiv (2 ^ 1) - L) * n ≤ 2 ^ 27 →
      ∃ Γ', evSs (evS noHk (evE X q) kk (mm + 2)) iscope.names [s2, s3, s4, s5] (bindPs (freeG (put (put (bindPs [] [ax, nx] [.int x, .int n]) an (.ref l)) nm (.ref fa)) iscope.names) [xx, Lx, Rx] [.int x', .int L, .int R]) [] = some (.nxt, Γ', []) ∧
      each (evE X q iscope.names Γ') [a1, a2, a3] = some [.int (Builtin.bitXor x' (x'.fdiv (2 ^ (((L + R).fdiv (2 ^ 1) - L) * n).toNat) * 2 ^ (((L + R).fdiv (2 ^ 1) - L) * n).toNat)), .int L, .int ((L + R).fdiv (2 ^ 1))] ∧
      each (evE X q iscope.names Γ') [a4, a5, a6] = some [.int (x'.fdiv (2 ^ (((L + R).fdiv (2 ^ 1) - L) * n).toNat)), .int ((L + R).fdiv (2 ^ 1)), .int R] ∧ look Γ' nm = some (.ref fa)) :
    OkCall B (L0 + 70) (.ref a) [.int x, .int n] (.lst ((digs n N x).map D.int)) := by
  intro A G s vs E Q rm st r hQ
  obtain ⟨v, w, rfl, rv, rw'⟩ := r.two
  have fc := fc0.st st
  refine enter_fc (m := L0 + 69) fc hsc (hbind v w) ?_ st (Clo.none hnf) (ds := [.int x, .int n]) (.cons rv (.cons rw' .nil)) rm fun env G1 s1 V Q1 E1 f1 kx hO hV hec heq hcells hq1 _ rm1 => ?_
  · intro p hp
    rcases List.mem_cons.mp hp with e | e
    · rw [e]; exact hsa
    · rw [List.mem_singleton.mp e]; exact hsn
  have okE := (evE_ok nv q).1
  have okT := (evE_ok nv q).2
  have rmL : Room L0 (A.deeper env) := rm1.less (by omega)
  have hst : storable scope.names nm = true := by unfold storable; rw [hx]
  have hqn : qualnameIn env nm nm = qual := by
    unfold qualnameIn
    have hkd : env.kindOf nm = some .cell := (f1.ow.cel nm hx).1
    rw [hkd, heq, ← hq]; rfl
  rw [hb]
  -- the digits' list
  refine WP.exec1 (assign_plain (swaps_not rfl) rfl rfl (WP.binop (okE scope.names _ _ _ hze _ _ _ env _ _ rmL f1.kn f1.se fun v2 G2 s2' k2 r2 => okE scope.names _ _ _ hcnt _ _ _ env _ _ rmL f1.kn (f1.se.ke k2) fun v3 G3 s3' k3 r3 => ?_)))
  have k23 := k2.trans k3
  have st3 := f1.st.ke k23
  have r2' := r2.ke (f1.st.ke k2) k3
  refine r3.intK fun t3 => r2'.lstK fun a2 i2 n2 h2O h2l h2d => ?_
  refine mulLst_new h2l h2d ⟨by omega, by omega, by simp; omega⟩ fun items hzs => ?_
  rw [Int.toNat_natCast] at hzs
  have hz0 : (List.replicate N [D.int 0]).flatten = (List.replicate N (0 : Int)).map D.int := by
    rw [List.map_replicate, flat_one]
  rw [hz0] at hzs
  have kp4 : Ke B G3 s3' G3 { s3' with heap := s3'.heap.push { cls := .type "list", data := .seq items } } := Ke.push st3 _ (Nat.le_refl _)
  have k4 := k23.trans kp4
  have hl4 : LstAt (s3'.heap.push { cls := .type "list", data := .seq items }) s3'.heap.objs.size items 0 := Heap.get?_push_size _ rfl
  have hlt4 : s3'.heap.objs.size < (s3'.heap.push { cls := .type "list", data := .seq items }).objs.size := by rw [Heap.size_push]; exact Nat.lt_succ_self _
  have hls1 : s1.heap.objs.size ≤ s3'.heap.objs.size := k23.sz
  have hls : s.heap.objs.size ≤ s3'.heap.objs.size := Nat.le_trans kx.sz hls1
  have hl0 : B.h0.get? s3'.heap.objs.size = none := f1.st.fresh0 hls1
  have hlB := not_tb hl0
  have hzs4 : RdL G3 (s3'.heap.push { cls := .type "list", data := .seq items }) items.toList ((List.replicate N (0 : Int)).map D.int) := RdL.ints hzs
  generalize s3'.heap.objs.size = l at *
  have kx4 : Kx B [] G1 s1 { G3 with O := l :: G3.O } { s3' with heap := s3'.heap.push { cls := .type "list", data := .seq items } } :=
    Kx.own f1.st k4 (fun a ha => (List.mem_cons.mp ha).elim (fun q => .inr (q ▸ ⟨hls1, hlt4⟩)) fun q => .inl (k4.o ▸ q)) fun a ha => List.mem_cons_of_mem _ (k4.o ▸ ha)
  have f4 : Fm B (l :: G.O) { G3 with O := l :: G3.O } { s3' with heap := s3'.heap.push { cls := .type "list", data := .seq items } } scope.names env V (bindPs [] [ax, nx] [.int x, .int n]) [] :=
    f1.openI kx4 (fun a => by rw [← k4.o]; exact List.mem_cons) hls1
  refine ⟨@wpAny_assign_Name _ _ _ _ _ _ _ _ _ (f4.stored hsan (.ref l) fun s5 t5 f5 => ⟨rfl, ?_⟩).w⟩
  -- the def
  refine WP.exec1 (def_ok f5 hd0 hk0 (ha env) (hec.trans hcode) C hP hdn hqn hbm hfree hst fun fa ifd s6 t6 f6 hfa fci hfd => ⟨rfl, ?_⟩)
  obtain ⟨doc, pm, c', ctv, hfd⟩ := hfd
  have hcl : ∀ y c, env.cells.lookup y = some c → c ≠ l := fun y c hy e => by
    rcases hcells y c hy with q | q
    · exact f6.vo c q (e ▸ List.mem_cons_self)
    · cases q
  have hfc : ∀ y, (y, NameKind.free) ∈ iscope.names → kc (env.kindOf y) = .cel := fun y hm => by rw [← f6.kn y]; exact freeCel_mem hfree hm
  have clo6 := f6.se.clo (names := iscope.names) hfc
  have hclo : ∀ y c, (closOf env.cells iscope.names []).lookup y = some c → c ≠ l := fun y c hy => by
    obtain ⟨g1, rfl⟩ := closOf_mem (mem_of_lookup hy)
    obtain ⟨c', g2, _⟩ := f6.se.cl y (hfc y g1)
    rw [g2]; exact hcl y c' g2
  have t56 := t5.trans t6
  have inO : ∀ {G : Gh}, l ∉ Wn G (l :: G1.O) → True := fun _ => trivial
  have hl6 : LstAt s6.heap l items 0 := t56.kx.kw.kp l _ (fun q => (List.mem_append.mp q).elim (fun q => (mem_Wn.mp q).2 List.mem_cons_self) hlB) hl4
  have hV6 : ∀ a ∈ V, s.heap.objs.size ≤ a := hV
  -- from the call's start to here
  have kxs : Kx B [] G s { G3 with O := l :: G3.O } { s3' with heap := s3'.heap.push { cls := .type "list", data := .seq items } } := kx.trans kx4 fun _ h => nomatch h
  have hWn : ∀ a ∈ Wn { G3 with O := l :: G3.O } (l :: G.O), a ∈ ([] : List Addr) ∨ s.heap.objs.size ≤ a := fun a ha => by
    obtain ⟨g1, g2⟩ := mem_Wn.mp ha
    rcases List.mem_cons.mp g1 with e | g1
    · exact absurd (e ▸ List.mem_cons_self) g2
    · rw [k4.o] at g1
      rcases (hO a).mp g1 with q | q
      · exact .inr (hV a q)
      · exact absurd (List.mem_cons_of_mem _ q) g2
  have kx6 := kxs.trans t56.kx hWn
  -- the return
  have fin : ∀ (G7 : Gh) (s7 : Shared) (items7 : Array Value) (nn7 : Nat), Kx B [] G s G7 s7 → Fm B (l :: G.O) G7 s7 scope.names env V (put (put (bindPs [] [ax, nx] [.int x, .int n]) an (.ref l)) nm (.ref fa)) [] → LstAt s7.heap l items7 nn7 → RdL G7 s7.heap items7.toList ((digs n N x).map D.int) →
      WP B (A.deeper env) (execs [.Return (some (.Name an p4')) p5'] env) Q1 E1 s7 := fun G7 s7 items7 nn7 kx7 f7 hl7 hd7 => by
    refine WP.ret1 (okE scope.names _ _ _ (hra l fa) _ _ _ env _ _ rmL f7.kn f7.se fun v8 G8 s8 k8 r8 => ?_)
    obtain rfl := r8.refI
    refine hq1 _ _ (hQ _ _ _ (kx7.ke k8 f7.st).kw (.lst (n := nn7) (fun q => Nat.not_lt.mpr hls (st.lt _ q)) (lst_kw hl7 k8 (fun h => nomatch h) hlB) (RdL.ints hd7)))
  -- the test
  refine WP.exec1 ⟨@wpAny_If _ _ _ _ _ _ _ _ _ _ (okT scope.names _ te _ ((x : Int) != 0) (hte l fa) (by rfl) _ _ _ env _ _ rmL f6.kn f6.se fun G7 s7 k7 => ?_).w⟩
  have f7 := f6.ke k7
  have hl7 : LstAt s7.heap l items 0 := lst_kw hl6 k7 (fun h => nomatch h) hlB
  by_cases hx0 : x = 0
  · rw [if_neg (by simp [hx0])]
    refine @wpAny_execs_nil _ _ _ _ _ _ ⟨rfl, fin G7 s7 items 0 (kx6.ke k7 f6.st) f7 hl7 ?_⟩
    rw [hx0, digs_zero]
    exact RdL.ints hzs4
  · have hN0 : 0 < N := by
      rcases Nat.eq_zero_or_pos N with e | e
      · rw [e] at hxN; simp at hxN; exact absurd hxN hx0
      · exact e
    rw [if_pos (by simp [hx0])]
    have hi : interactive env = false := by unfold interactive; rw [f7.se.kind]; rfl
    have hla : look (put (put (bindPs [] [ax, nx] [.int x, .int n]) an (.ref l)) nm (.ref fa)) an = some (.ref l) := by rw [look_put, if_neg hne, look_put, if_pos rfl]
    have sel := f7.se.lend hl7 (RdL.ints hzs4) hla hlB
    have hzl : ((List.replicate N (0 : Int)).map D.int).length = N := by simp
    refine (WP.exec1 (WP.exprNone hi rfl (fun v hv => by rw [hv]; rfl) (callCel_ok okE rmL f7.kn sel (by rw [hx]; rfl) (by rw [look_put, if_neg (Ne.symm hne), look_put, if_pos rfl]) h1 h2 (he l fa _ hzl) fun vs8 G8 s8 k8 r8 => ?_))).w
    have k8' := Kw.unlend k8
    have fc8 : FcAt B s8.heap fa ibody iscope (closOf env.cells iscope.names []) ifd := (fci.ke k7).ke k8'
    have f8 := f7.ke k8'
    have hl8 : LstAt s8.heap l items 0 := lst_kw hl7 k8' (fun h => nomatch h) hlB
    have hlO8 := f8.oo l List.mem_cons_self
    rw [hzl] at r8
    have r8' : RdL { G8 with O := G7.O } s8.heap vs8 [.int (x : Int), .int ((0 : Nat) : Int), .int (N : Int)] := RdL.ints (ys := [(x : Int), 0, (N : Int)]) r8
    refine ⟨fc8.isFn, i2d_inner (kk := kk) (mm := mm) nv hisc hsx hsL hsR (fun u v w => by rw [hfd]; exact hibind doc pm c' ctv _ u v w) hib hN hn hk h1 h2 hl0 (ht l fa) (hce l fa) (hie l fa) (hve l fa) (hm l fa) N 0 N x hN0 (Nat.le_refl _) (by omega) (by simpa using hxN) _ _ s8 vs8 (List.replicate N 0) items 0 _ _ (rm1.less (by omega)) f8.st fc8 ((clo6.ke k7 f6.st).ke k8' f7.st) r8' hlO8 hl8 (RdL.ints hzs4) (by simp) hclo fun G9 s9 items9 nn9 k9 hl9 hd9 => ⟨rfl, rfl, ?_⟩⟩
    refine ⟨@wpAny_execs_nil _ _ _ _ _ _ ⟨rfl, ?_⟩⟩
    have f9 := f8.kwO k9 List.mem_cons_self hl0 hcl
    have kx9 := ((kx6.ke k7 f6.st).ke k8' f7.st).trans (Kx.of_kw f8.st k9) fun a ha => .inr (by rw [List.mem_singleton.mp ha]; exact hls)
    refine fin G9 s9 items9 nn9 kx9 f9 hl9 ?_
    rw [rep_all (by rw [Nat.sub_zero, digs_len]; simp), Nat.sub_zero] at hd9
    exact hd9
end
end Mine

end
section
open PySem PySem.W PyProof.Rows
set_option Elab.async false
namespace Mine

/-! for x in reversed(xs); xs.reverse() -/
noncomputable def reverseD (sc : Kd) (Γ : Gm) (Ω : Om) (x m : Str) (apos cpos : Pos) : Option Rs := match strEq m "reverse" with
  | false => none
  | true => match strEq x "__debug__", strEq x "__classdict__" with
    | false, false => match apos.endLine == cpos.line, storable sc x with
      | true, true => match look Ω x with
        | some (.lst ds) => match Nat.ble ds.length 1000 with
          | true => some (.nxt, Γ, putA Ω x (.lst ds.reverse))
          | false => none
        | _ => none
      | _, _ => none
    | _, _ => none
noncomputable def revFor (X : Nv) (q : Nat) (rec : Sv) (sc : Kd) (Γ : Gm) (Ω : Om) (t : Expr) (x : Str) (e : Expr) (b : List Stmt) : Option Rs := match strEq x "reversed", strEq x "__debug__", isStar e with
  | true, false, false => match kc (look sc x) with
    | .glo => match evE X q sc Γ e with
      | some (.lst xs) => forD sc t (evSs rec sc b) xs.reverse Γ Ω
      | _ => none
    | _ => none
  | _, _, _ => none
noncomputable def forRev (X : Nv) (q : Nat) (rec : Sv) (sc : Kd) (Γ : Gm) (Ω : Om) (t i : Expr) (b : List Stmt) : Option Rs := match i with
  | .Call (.Name x _) [e] [] _ => revFor X q rec sc Γ Ω t x e b
  | _ => none
noncomputable def exprRev (sc : Kd) (Γ : Gm) (Ω : Om) (e : Expr) : Option Rs := match e with
  | .Call (.Attribute (.Name x _) m apos) [] [] cpos => reverseD sc Γ Ω x m apos cpos
  | _ => none
noncomputable def hkRev (X : Nv) (q k m : Nat) : Hk := ⟨fun sc Γ Ω st => match st with
  | .For t i b [] _ => forRev X q (evS noHk (evE X q) k m) sc Γ Ω t i b
  | .Expr e _ => exprRev sc Γ Ω e
  | _ => none⟩

section
variable {B : Bs} {A : Around} {O0 : List Addr} {G : Gh} {s : Shared} {sc : Kd} {env : Env} {V : List Addr} {Γ Γ' : Gm} {Ω Ω' : Om} {E : Value → Shared → Prop} {L : Nat} {X : Nv} {rec : Sv} {ev : Ev}

theorem rev_iter (okE : OkE B L ev) (rm : Room L A) (f : Fm B O0 G s sc env V Γ Ω) {x : Str} {px cp : Pos} {e : Expr} {xs : List D} (hk : kc (look sc x) = .glo) (hdb : strEq x "__debug__" = false) (hmg : B.mg x = none) (hmb : B.mb x = some (.type "reversed")) (hstar : isStar e = false)
    (h1 : ev sc Γ e = some (.lst xs)) (Qi : Value → Shared → Prop) (h : ∀ I G1 s1 s2, Tr B O0 G s G1 s1 → Fm B O0 G1 s1 sc env V Γ Ω → s1.heap.objs.size ≤ I → I < s2.heap.objs.size → Ke B G1 s1 G1 s2 → Src B A I { G1 with O := I :: G1.O } s2 xs.reverse → Qi (.ref I) s2) :
    WP B A (eval (.Call (.Name x px) [e] [] cp) env) (fun v s1 => WP B A (pyIter v) Qi E s1) E s := by
  show WP B A (do callWith cp (← eval (.Name x px) env) [] (backTo cp (starEach [e] env)) []) _ E s
  refine WP.bind (callee_ok f.kn f.se hk hdb (.inr ⟨hmg, hmb⟩) ?_)
  have hea : each (ev sc Γ) [e] = some [.lst xs] := by simp only [each, hstar, h1]
  refine callWith_ok (.type _) (star_any hea) (each_ok okE rm f.kn hea f.se fun vs G1 s1 k1 r1 => ⟨⟨G1, f.st.ke k1⟩, ?_⟩)
  obtain ⟨v, rfl, rv⟩ := r1.one
  refine rv.lstK fun a items n ha hl hd => ?_
  have f1 := f.ke k1
  have st1 := f1.st
  have hne : a ≠ s1.heap.objs.size := Nat.ne_of_lt (Heap.lt_size hl)
  refine ⟨@call_reversed_list _ _ _ _ _ _ _ _ hl.is ?_⟩
  have hlt : s1.heap.objs.size < (s1.heap.push (revObj a ((items.size : Int) - 1))).objs.size := by rw [Heap.size_push]; exact Nat.lt_succ_self _
  have ke : Ke B G1 s1 G1 { s1 with heap := s1.heap.push (revObj a ((items.size : Int) - 1)) } := Ke.push st1 _ (Nat.le_refl _)
  have hrev : ({ s1 with heap := s1.heap.push (revObj a ((items.size : Int) - 1)) } : Shared).heap.IsRevIter s1.heap.objs.size a ((items.size : Int) - 1) := ⟨_, Heap.get?_push_size _ rfl, rfl, rfl⟩
  refine ⟨@wpAny_pyIter_revIter _ _ _ _ _ _ _ _ _ hrev ?_⟩
  refine h _ G1 s1 _ (Tr.ke f.st k1) f1 (Nat.le_refl _) hlt ke ⟨[s1.heap.objs.size, a], items.size, 0, _, _, Walks.listRev rm.hd _ a hne items, ⟨Nat.zero_le _, by simpa using hrev, LstAt.is (Heap.get?_push_of_some _ hl)⟩, ?_, ?_, ?_, ?_⟩
  · rw [hd.size, List.length_reverse, Nat.zero_add]
  · intro b hb
    rcases List.mem_cons.mp hb with q | q
    · exact .inl q
    · rw [List.mem_singleton.mp q]
      exact .inr ⟨fun m => (List.mem_cons.mp m).elim hne ha, Nat.lt_trans (Heap.lt_size hl) hlt⟩
  · intro j v d hv hdj
    have hj : j < xs.length := by have := (List.getElem?_eq_some_iff.mp hdj).1; rwa [List.length_reverse] at this
    rw [List.getElem?_reverse hj] at hdj
    obtain ⟨v', hv', rv⟩ := hd.get hdj
    rw [Nat.zero_add, hd.size] at hv
    have : v' = v := by rw [Array.getElem?_toList] at hv'; exact Option.some.inj (hv'.symm.trans hv)
    subst this
    exact rv.up (G' := { G1 with O := s1.heap.objs.size :: G1.O }) ⟨Kp.push _ _ _, fun b hb => (List.mem_cons.mp hb).elim (fun q => .inr (q ▸ get_size_none _)) .inl, Nat.le_refl _, fun _ _ => rfl⟩
  · rintro j h ⟨_, ⟨o, ho, hc, _⟩, _⟩
    exact ⟨o, _, ho, hc, by decide, by decide⟩

theorem reverseD_inv {P : Prop} {x m : Str} {apos cpos : Pos} {r : Rs} (h : reverseD sc Γ Ω x m apos cpos = some r)
    (k : m = "reverse" → strEq x "__debug__" = false → (apos.endLine == cpos.line) = true → storable sc x = true → ∀ ds, look Ω x = some (.lst ds) → ds.length ≤ 1000 → (.nxt, Γ, putA Ω x (.lst ds.reverse)) = r → P) : P := by
  unfold reverseD at h
  split at h
  · exact nsd h
  · rename_i hm
    split at h
    · rename_i hdb _
      split at h
      · rename_i hline hx
        split at h
        · rename_i hds
          split at h
          · rename_i hlen
            exact k (strEq_iff.mp hm) hdb hline hx _ hds (Nat.le_of_ble_eq_true hlen) (Option.some.inj h)
          · exact nsd h
        · exact nsd h
      · exact nsd h
    · exact nsd h
theorem reverse_ok {x m : Str} {px apos cpos pos : Pos} {r : Rs} {Q : Flow → Shared → Prop} (f : Fm B O0 G s sc env V Γ Ω)
    (h : reverseD sc Γ Ω x m apos cpos = some r) (hQ : PostS B O0 G s sc env V r Q) : WP B A (exec (.Expr (.Call (.Attribute (.Name x px) m apos) [] [] cpos) pos) env) Q E s := by
  refine reverseD_inv h fun hm hdb hline hx ds hds hlen hr => ?_
  subst hm
  subst hr
  have hi := interactive_no f
  rw [exec_Expr env _ _ hi rfl]
  refine WP.bind (WP.standAt (WP.bind ?_))
  obtain ⟨a, as, own, ⟨Γp, sep, hp⟩, turn⟩ := f.turn hds
  obtain ⟨od, turn1⟩ := turn G s (.refl f.st)
  obtain ⟨items, k, rfl, hl, rl⟩ := od.lstI
  rw [arm_eval_Call]
  refine WP.bind (load_own f sep hp hx hdb ?_)
  refine WP.bind (WP.standAt ?_)
  have hform : methodCallForm (([] : List Expr).length + ([] : List Keyword).length) (backTo cpos (starEach [] env)) (backToKw cpos (keywordEach [] env)) = true := rfl
  unfold methodCall calleeOf
  rw [hform, if_pos rfl]
  refine WP.bind (WP.holding ⟨@getMethod_builtin _ _ _ _ _ _ _ _ _ _ (LstAt.is hl).typeIs F.plainAttrs_list F.slot_list_reverse (by rfl) (fun b hb => Value.ref.inj hb ▸ ⟨_, hl, rfl⟩) ?_⟩)
  rw [mpos_ok hline]
  refine WP.bind (WP.pure ?_)
  refine callWith_ok (.builtin _) rfl (WP.pure (a := []) ⟨⟨G, f.st⟩, ?_⟩)
  have hasz : items.size ≤ sizeLine := by rw [rl.size, sizeLine_eq]; exact Nat.le_trans hlen (by decide)
  have hO1 : a ∈ G.O := (own a List.mem_cons_self).1
  have ht : a ∉ B.tb := fun q => (own a List.mem_cons_self).2.1 (f.tb a q)
  have hs' := Heap.SameBut.update s.heap a (Obj.mapSeq fun x => x.reverse)
  have kw : Kw B [a] G s G { s with heap := s.heap.update a (Obj.mapSeq fun x => x.reverse) } := Kw.same1 f.st (List.mem_singleton.mpr rfl) ht hs' (Nat.le_refl _) hl.nc
  have up := kw.up f.st (fun b hb => by rw [List.mem_singleton.mp hb]; exact hO1)
  refine ⟨call_meets F.slot_list_reverse (LstAt.is hl).typeIs F.entry_list_reverse (F.args_list_reverse_1 _) (AutoSeq1.list_reverse_list_0 a items k hasz) ⟨hl, ?_⟩⟩
  obtain ⟨t2, f2⟩ := turn1 _ (.lst ds.reverse) kw (.lst (PySem.IsL.update hl _) (by rw [Array.toList_reverse]; exact (rl.up up).reverse))
  exact WP.pure (hQ .next G _ t2 f2 trivial)

theorem hkRev_for {P : Expr → Prop} {rec : Sv} {t i : Expr} {b : List Stmt} {r : Rs} (h : forRev X q rec sc Γ Ω t i b = some r) (k1 : ∀ x px e cp, revFor X q rec sc Γ Ω t x e b = some r → P (.Call (.Name x px) [e] [] cp)) : P i := by
  cases i <;> first | exact nsd h | skip
  case Call f args kws cp =>
    cases f <;> first | exact nsd h | skip
    case Name x px =>
      cases args with
      | nil => exact nsd h
      | cons e rest => cases rest with
        | cons => exact nsd h
        | nil => cases kws with
          | cons => exact nsd h
          | nil => exact k1 _ _ _ _ h
theorem hkRev_expr {P : Expr → Prop} {e : Expr} {r : Rs} (h : exprRev sc Γ Ω e = some r) (k2 : ∀ x px m apos cpos, reverseD sc Γ Ω x m apos cpos = some r → P (.Call (.Attribute (.Name x px) m apos) [] [] cpos)) : P e := by
  cases e <;> first | exact nsd h | skip
  case Call f args kws cp =>
    cases f <;> first | exact nsd h | skip
    case Attribute o m apos =>
      cases o <;> first | exact nsd h | skip
      case Name x px =>
        cases args with
        | cons => exact nsd h
        | nil => cases kws with
          | cons => exact nsd h
          | nil => exact k2 _ _ _ _ _ h
theorem hkRev_ok (nv : NvOk B L X) (hmg : B.mg "reversed" = none) (hmb : B.mb "reversed" = some (.type "reversed")) (q k m : Nat) : OkS B L (hkRev X q k m).S := by
  intro sc Γ Ω st r h A O0 G s env V E Q rm f hQ
  cases st <;> first | exact nsd h | skip
  case Expr e pos => exact hkRev_expr (P := fun e => WP B A (exec (.Expr e pos) env) Q E s) h fun x px m apos cpos h => reverse_ok f h hQ
  case For t i b o pos =>
    cases o with
    | cons => exact nsd h
    | nil =>
    refine hkRev_for (P := fun i => WP B A (exec (.For t i b [] pos) env) Q E s) h fun x px e cp h => ?_
    unfold revFor at h
    split at h
    · rename_i hx hdb hstar
      have hx := strEq_iff.mp hx
      subst hx
      split at h
      · rename_i hk
        split at h
        · rename_i xs hxs
          exact for_core (evS_ok nv noHk_ok q k m) rm rfl (rev_iter (evE_ok nv q).1 rm f hk hdb hmg hmb hstar hxs) h hQ
        · first | exact nsd h | exact nft h | exact ntf h | cases h
      · first | exact nsd h | exact nft h | exact ntf h | cases h
    · first | exact nsd h | exact nft h | exact ntf h | cases h
end
end Mine

end
section
open PySem PySem.W PyProof.Rows
set_option Elab.async false
namespace Mine
open PySem.Sre PySem.Builtin.Re

/-! a search that finds nothing -/
noncomputable def codeN : Array Nat := #[14, 10, 4, 1, 1, 22, 0, 31, 16, 127, 0, 13, 7, 22, 0, 31, 16, 127, 0, 1]
noncomputable def codeV : Array Nat := #[14, 14, 4, 1, 1, 9, 4294966783, 0, 0, 2147483648, 0, 0, 0, 0, 0, 13, 11, 9, 4294966783, 0, 0, 2147483648, 0, 0, 0, 0, 0, 1]
noncomputable def NoSet (code : Array Nat) (c : Nat) : Prop := ∀ seen, ∃ seen', inSet code c code.size 5 true seen = .ok (false, seen')

theorem noSet_N {c : Nat} (h1 : 32 ≤ c) (h2 : c < 127) : NoSet codeN c := by
  intro seen
  have e1 : (decide (0 ≤ c) && decide (c ≤ 31)) = false := by simp; omega
  have e2 : (c == 127) = false := by simp; omega
  refine ⟨((seen.add 22).add 16).add 0, ?_⟩
  have s1 : inSet codeN c codeN.size 5 true seen = (if (decide (0 ≤ c) && decide (c ≤ 31)) = true then .ok (true, seen.add 22) else inSet codeN c 19 8 true (seen.add 22)) := rfl
  have s2 : inSet codeN c 19 8 true (seen.add 22) = (if (c == 127) = true then .ok (true, (seen.add 22).add 16) else inSet codeN c 18 10 true ((seen.add 22).add 16)) := rfl
  rw [s1, e1, if_neg (by decide), s2, e2, if_neg (by decide)]
  rfl
theorem bits96 : ∀ c, c < 127 → 32 ≤ c → (codeV.getD (5 + (1 + c / 32)) 0).testBit (c % 32) = false := by decide +kernel
theorem noSet_V {c : Nat} (h1 : 32 ≤ c) (h2 : c < 127) : NoSet codeV c := by
  intro seen
  have e1 := bits96 c h2 h1
  refine ⟨(seen.add 9).add 0, ?_⟩
  have s1 : inSet codeV c codeV.size 5 true seen = (if (decide (c < 256) && (codeV.getD (5 + (1 + c / 32)) 0).testBit (c % 32)) = true then .ok (true, seen.add 9) else inSet codeV c 27 14 true (seen.add 9)) := rfl
  rw [s1, e1, Bool.and_false, if_neg (by decide)]
  rfl

theorem admitted_none {m : M} : ∀ (fuel s : Nat) (seen : Sre.Seen), (∀ i, s ≤ i → i < m.lim → NoSet m.code (m.text.getD i 0)) → ∃ seen', M.admitted m fuel s seen = .ok (none, seen')
  | 0, _, seen, _ => ⟨seen, rfl⟩
  | fuel + 1, s, seen, h => by
    unfold M.admitted
    by_cases hs : s ≥ m.lim
    · rw [if_pos hs]; exact ⟨seen, rfl⟩
    · rw [if_neg hs]
      obtain ⟨seen', e⟩ := h s (Nat.le_refl _) (by omega) seen
      rw [e]
      exact admitted_none fuel (s + 1) seen' fun i hi => h i (by omega)

/-- a machine that has said no -/
theorem runFor_no {m : M} (h1 : m.answer = some false) (h2 : m.frames = []) (h3 : m.outcome = none) : ∃ m', m.runFor 4 = m' ∧ m'.outcome = some .failed := by
  have e : m.step = { m with outcome := some .failed } := by
    unfold M.step
    rw [if_neg (by rw [h3]; decide)]
    split
    · rename_i yes a b
      rw [h1] at a; cases a
      rfl
    · rename_i a b; rw [h2] at b; cases b
    · rename_i a; rw [h1] at a; cases a
  refine ⟨_, rfl, ?_⟩
  show (if m.outcome.isSome then m else M.runFor 3 m.step).outcome = _
  rw [h3, if_neg (by decide), e]
  rfl

noncomputable def Safe (x : Str) : Bool := Nat.ble x.cps.size 1000 && x.cps.toList.all fun c => Nat.ble 32 c && Nat.ble c 126
theorem search_no {code : Array Nat} {x : Str} (hc : code = codeN ∨ code = codeV) (hx : Safe x = true) : ∃ m, forSearch code x.cps 0 0 x.cps.size false = m ∧ m.answer = some false ∧ m.frames = [] ∧ m.outcome = none := by
  have hset : ∀ c, 32 ≤ c → c < 127 → NoSet code c := fun c a b => by
    rcases hc with rfl | rfl
    · exact noSet_N a b
    · exact noSet_V a b
  have hhd : (header code).1 = 1 ∧ ((header code).2 != 0 && code.getD 2 0 &&& 5 != 0) = true := by
    rcases hc with rfl | rfl <;> exact ⟨rfl, rfl⟩
  have hfs : ∀ m : M, m.code = code → m.hasFirstSet = true := fun m e => by
    unfold M.hasFirstSet; rw [e]; rcases hc with rfl | rfl <;> rfl
  have hsafe : ∀ i, i < x.cps.size → NoSet code (x.cps.getD i 0) := fun i hi => by
    have hm : x.cps.getD i 0 ∈ x.cps.toList := by
      rw [Array.getD_eq_getD_getElem?, Array.getElem?_eq_getElem hi]
      exact Array.getElem_mem_toList hi
    have := List.all_eq_true.mp (Bool.and_eq_true_iff.mp hx).2 _ hm
    rw [Bool.and_eq_true, Nat.ble_eq, Nat.ble_eq] at this
    exact hset _ this.1 (by omega)
  refine ⟨_, rfl, ?_⟩
  unfold forSearch
  simp only [hhd.1]
  by_cases hlt : (0 > x.cps.size || x.cps.size - 0 < 1) = true
  · rw [if_pos (by simpa using hlt)]
    exact ⟨rfl, rfl, rfl⟩
  · rw [if_neg (by simpa using hlt)]
    have key : ∀ m0 : M, m0.code = code → m0.text = x.cps → m0.lim = x.cps.size → m0.answer = none → m0.frames = [] → m0.outcome = none →
        (m0.attemptFrom 0 true).answer = some false ∧ (m0.attemptFrom 0 true).frames = [] ∧ (m0.attemptFrom 0 true).outcome = none := fun m0 a1 a2 a3 a4 a5 a6 => by
      obtain ⟨seen', e⟩ := admitted_none (m := m0) (m0.lim + 1 - 0) 0 m0.seen fun i _ hi => by rw [a1, a2]; exact hsafe i (by rw [← a3]; exact hi)
      unfold M.attemptFrom
      rw [hfs m0 a1, e]
      exact ⟨rfl, a5, a6⟩
    exact key _ rfl rfl rfl rfl rfl rfl

namespace SF
theorem owner_pat : Manifest.owners.lookup "re.Pattern" = some Manifest.sig_re_Pattern := by kernel_rfl
theorem plainAttrs_pat : PlainAttrs "re.Pattern" :=
  ⟨⟨"object.__getattribute__", by rw [typeLookup_type, builtinLookup_eq_fast]; kernel_rfl, by decide +kernel⟩, by rw [typeLookup_type, builtinLookup_eq_fast]; kernel_rfl⟩
theorem slot_search : Slot "re.Pattern" "search" "re.Pattern.search" :=
  .of (owner := "re.Pattern") (n := "search") (by rw [typeLookup_type, builtinLookup_eq_fast]; kernel_rfl) (by decide +kernel) (by decide +kernel) (by decide +kernel)
    (by first | exact .inl (by decide +kernel) | exact .inr (by decide +kernel)) (by rw [isSubtype_type]; kernel_rfl)
theorem type_search : typeOf (.builtin "re.Pattern.search") = pure (.type "method_descriptor") := by show builtinType _ = _; rw [builtinType_eq_fast]; kernel_rfl
theorem entry_search : entryFor table "re.Pattern.search" = some Builtin.«re.Pattern.search» := entryFor_of_tree (by kernel_rfl)
theorem args_search (a b : Value) : argsOk "re.Pattern.search" ⟨[a, b], []⟩ := by unfold argsOk; kernel_rfl
end SF

section
variable {prog : Program} {w : World} {A : Around} {E : Value → Shared → Prop} {s : Shared} {Q : Value → Shared → Prop}
/-- a pattern's object -/
structure PatAt (h : Heap) (p : Addr) (code : Array Nat) : Prop where
  ob : ∃ o vs ct, h.get? p = some o ∧ o.cls = .type "re.Pattern" ∧ o.dict = none ∧ o.data = .fields vs ∧ vs.getD 6 .none = rawInt 0 ∧ vs.getD 5 .none = .ref ct ∧ vs.getD 2 .none = rawInt 0 ∧
    ∃ oc its n, h.get? ct = some oc ∧ oc.data = .seq its n ∧ (its.map reRawOf).map (·.toNat) = code

theorem rules_go (f : Nat → PUnit → Sem (ForInStep PUnit)) (seen : Sre.Seen) (hf : ∀ i u, f i u = if seen.has i then (do rule (Sre.names.getD i ""); pure (.yield ⟨⟩)) else pure (.yield ⟨⟩)) {M : Model} {Q : PUnit → Shared → Prop} : ∀ l : List Nat, Q ⟨⟩ s → wpAny M A (forIn l ⟨⟩ f) Q E s
  | [], h => by rw [List.forIn_nil]; exact @wpAny_pure _ _ _ _ _ _ _ h
  | i :: l, h => by
    rw [List.forIn_cons, hf]
    split
    · exact @wpAny_bind _ _ _ _ _ _ _ _ _ (@wpAny_bind _ _ _ _ _ _ _ _ _ (@wpAny_rule _ _ _ _ _ _ (@wpAny_pure _ _ _ _ _ _ _ (rules_go f seen hf l h))))
    · exact @wpAny_bind _ _ _ _ _ _ _ _ _ (@wpAny_pure _ _ _ _ _ _ _ (rules_go f seen hf l h))

theorem search_ok {p : Addr} {code : Array Nat} {x : Str} {t : Tok} (hp : PatAt s.heap p code) (hc : code = codeN ∨ code = codeV) (hx : Safe x = true) (h : Q .none s) :
    wpAny (model prog w) A (call (.builtin "re.Pattern.search") [.ref p, .str x t]) Q E s := by
  obtain ⟨o, vs, ct, ho, hcls, _, hd, h6, h5, h2, oc, its, n, hoc, hod, hcode⟩ := hp.ob
  refine @wpAny_call_entry _ _ _ _ _ _ _ _ _ _ _ _ SF.slot_search ⟨o, ho, hcls⟩ SF.entry_search ?_ (SF.args_search _ _)
  unfold Builtin.«re.Pattern.search» reTarget
  refine @wpAny_bind _ _ _ _ _ _ _ _ _ ?_
  have hn : reNamed "re.Pattern.search" "search" ["string", "pos", "endpos"] 1 [.str x t] [] = pure [some (.str x t), none, none] := by kernel_rfl
  dsimp only
  refine @wpAny_bind _ _ _ _ _ _ _ _ _ (@wpAny_of_eq _ _ _ _ _ _ _ _ hn ?_)
  dsimp only
  refine @wpAny_bind _ _ _ _ _ _ _ _ _ (@wpAny_pure _ _ _ _ _ _ _ (@wpAny_bind _ _ _ _ _ _ _ _ _ (@wpAny_pure _ _ _ _ _ _ _ ?_)))
  refine @wpAny_bind _ _ _ _ _ _ _ _ _ (@wpAny_fieldsOf _ _ _ _ _ _ _ _ ho hd ?_)
  have ht : reTextOf (.str x t) = pure (x.cps, 0) := rfl
  refine @wpAny_bind _ _ _ _ _ _ _ _ _ (@wpAny_of_eq _ _ _ _ _ _ _ _ ht ?_)
  dsimp only
  rw [h6, h5, h2]
  have w0 : (reRawNat (rawInt 0)) = 0 := rfl
  rw [w0]
  refine @wpAny_bind _ _ _ _ _ _ _ _ _ (wpAny_of_eq (a := ()) rfl ?_)
  refine @wpAny_bind _ _ _ _ _ _ _ _ _ (@wpAny_bind _ _ _ _ _ _ _ _ _ (@wpAny_seqItems _ _ _ _ _ _ _ _ _ hoc hod (@wpAny_pure _ _ _ _ _ _ _ (@wpAny_pure _ _ _ _ _ _ _ ?_))))
  have hsz : x.cps.size ≤ 1000 := by have := (Bool.and_eq_true_iff.mp hx).1; rwa [Nat.ble_eq] at this
  have e0 : (min (Int.toNat 0) x.cps.size) = 0 := by simp
  have hlim : (min ((2 : Int) ^ 63 - 1).toNat x.cps.size) = x.cps.size := by omega
  dsimp only
  rw [e0, hlim]
  unfold reAnswer reRunToEnd
  dsimp only
  rw [Option.getD_some, hcode]
  obtain ⟨m0, hm0, a1, a2, a3⟩ := search_no hc hx
  rw [hm0]
  obtain ⟨m1, hm1, ho1⟩ := runFor_no a1 a2 a3
  have hdrive : reDrive (2 ^ 64) m0 = pure m1 := by
    show (let m := m0.runFor reTurnSteps; if m.outcome.isSome then pure m else (do rule "sre.turn"; reDrive (2 ^ 64 - 1) m)) = pure m1
    have e : m0.runFor reTurnSteps = m1 := hm1
    simp only [e, ho1, Option.isSome_some, if_true]
  rw [hdrive]
  refine @wpAny_bind _ _ _ _ _ _ _ _ _ (@wpAny_bind _ _ _ _ _ _ _ _ _ (@wpAny_pure _ _ _ _ _ _ _ ?_))
  refine @wpAny_bind _ _ _ _ _ _ _ _ _ (rules_go _ m1.seen (fun i u => by split <;> simp_all) _ ?_)
  rw [ho1]
  refine @wpAny_pure _ _ _ _ _ _ _ ?_
  exact @wpAny_pure _ _ _ _ _ _ _ ⟨_, rfl, h⟩
end
end Mine

end
section
open PySem PySem.W PyProof.Rows
set_option Elab.async false
namespace Mine

/-- the written part of the heap, but for the code tables -/
structure KB (B : Bs) (K : Frag) : Prop where
  in0 : K.In B.h0
  no : ∀ a o, K.lookup a = some o → a ∉ B.tb
theorem KB.st {B : Bs} {K : Frag} (k : KB B K) {G : Gh} {s : Shared} (st : St B G s) : K.In s.heap := fun a o e => st.kp a o (k.no a o e) (k.in0 a o e)

/-- the class of headers -/
structure HdK (K : Frag) (C : Addr) : Prop where
  mks : makesIn K C = true
  hd : hasDictIn K C = true
  ga : findIn K (.ref C) "__getattribute__" = some (some (.builtin "object.__getattribute__"))
  gh : findIn K (.ref C) "__getattr__" = some none
  sa : findIn K (.ref C) "__setattr__" = some (some (.builtin "object.__setattr__"))
  po : plainOver K C = true
  tk : takerIn K C "_headers" = some none
  fa : findIn K (.ref C) "_headers" = some none

theorem lookIn_ns {o : Obj} {es : Array DictEntry} {ep : Nat} {m : Str → Option Value} (hd : o.data = .dict es ep) (sk : StrKeys es) (hf : ∀ name, nsFind es name = m name) (x : Str) : lookIn x o = some (m x) := by
  unfold lookIn
  rw [hd]
  dsimp only
  rw [← hf x]
  unfold nsFind findBy
  rw [← Array.find?_toList]
  cases e : es.toList.find? (fun d => d.key.isStr x) with
  | some d => rfl
  | none =>
    have : es.toList.any (·.refKey) = false := by
      rw [List.any_eq_false]
      intro d hdm
      obtain ⟨n, t, hk⟩ := sk d (Array.mem_toList_iff.mp hdm)
      simp [DictEntry.refKey, hk]
    rw [this]; rfl

section
variable {B : Bs} {A : Around} {G : Gh} {s : Shared} {K : Frag} {C : Addr} {E : Value → Shared → Prop}
theorem hdr_inst {v : Value} {xs : List D} (r : Rd G s.heap v (.hdr C xs)) : ∃ a dx l items n o, v = .ref a ∧ InstAt s.heap a { cls := .ref C, dict := some dx, data := .plain } C (some o) ∧ (∀ x, lookIn x o = some (if x = ("_headers" : Str) then some (.ref l) else none)) ∧ l ∉ G.O ∧ LstAt s.heap l items n ∧ RdL G s.heap items.toList xs := by
  refine r.hdrK fun a dx l items n ha hx hl ht hne hn hi hd => ?_
  obtain ⟨o, es, ep, e, hdt, sk, uk, hf⟩ := hn
  exact ⟨_, _, _, _, _, o, rfl, ⟨ht, rfl, rfl, e⟩, fun x => lookIn_ns hdt sk hf x, hl, hi, hd⟩

theorem hdr_attr (kb : KB B K) (hk : HdK K C) {v : Value} {xs : List D} {ex : Bool} {Q : Value → Shared → Prop} (st : St B G s) (r : Rd G s.heap v (.hdr C xs)) (hQ : Post B G s (.lst xs) Q) : WP B A (getAttr v "_headers" ex) Q E s := by
  obtain ⟨a, dx, l, items, n, o, rfl, I, hl, hlO, hi, hd⟩ := hdr_inst r
  exact ⟨@get_value _ _ _ _ _ _ _ _ _ _ _ _ _ _ (kb.st st) I hk.ga (findObj_own hk.hd hk.fa rfl (by rw [hl, if_pos rfl])) rfl (hQ.tok1 st (.lst hlO hi hd))⟩

theorem hdr_method (kb : KB B K) (hk : HdK K C) {name : Str} {f : Addr} (hf : findIn K (.ref C) name = some (some (.ref f))) (ht : typeIn K (.ref f) = some (.type "function")) (hne : name ≠ "_headers") {v : Value} {xs : List D} {pl : Sem Bool} {Q : Value × List Value → Shared → Prop}
    (st : St B G s) (r : Rd G s.heap v (.hdr C xs)) (h : Q (.ref f, [v]) s) : WP B A (getMethod v name pl) Q E s := by
  obtain ⟨a, dx, l, items, n, o, rfl, I, hl, hlO, hi, hd⟩ := hdr_inst r
  exact ⟨@method_fn _ _ _ _ _ _ _ _ _ _ _ _ _ _ (kb.st st) I hk.ga hk.gh hf ht (by unfold shadowIn; dsimp only; rw [hl, if_neg hne]; rfl) h⟩

/-- an attribute of a new instance -/
theorem set_ok {x dx : Addr} {m : Str → Option Value} {v : Value} {Q : Unit → Shared → Prop} (X : K.In s.heap) (hk : HdK K C) (hx : s.heap.get? x = some { cls := .ref C, dict := some dx, data := .plain }) (hns : s.heap.Ns1 dx m) {ns : List Str} (hw : Within m ns) (hsz : ns.length ≤ 100)
    (h : ∀ h', h'.Ns1 dx (fun y => if y = ("_headers" : Str) then some v else m y) → Heap.SameBut dx s.heap h' → Q () { s with heap := h', toks := s.toks + 2 }) : WP B A (setAttr (.ref x) "_headers" v) Q E s := by
  obtain ⟨o, es, ep, e, hdt, sk, uk, hf⟩ := id hns
  have I : InstAt s.heap x { cls := .ref C, dict := some dx, data := .plain } C (some o) := ⟨hx, rfl, rfl, e⟩
  refine ⟨@set_plain _ _ _ _ _ _ _ _ _ _ _ _ _ X I hk.sa (osa_open (s := { s with toks := s.toks + 1 }) X I hk.po hk.tk fun b => ?_)⟩
  obtain ⟨cd, hc, hd'⟩ := any_some hk.hd
  refine @wpAny_bind _ _ _ _ _ _ _ _ _ (@wpAny_pure _ _ _ _ _ _ _ (@wpAny_bind _ _ _ _ _ _ _ _ _ (@wpAny_bind _ _ _ _ _ _ _ _ _ (@wpAny_loadPart _ _ _ _ _ _ _ _ hx (@wpAny_bind _ _ _ _ _ _ _ _ _ (looks_clsIn (h := s.heap) X hc _ _ _ _ (fun _ _ e => e) ?_))))))
  rw [hd']
  refine wpAny_pure (a := some dx) (@wpAny_bind _ _ _ _ _ _ _ _ _ (@wpAny_pure _ _ _ _ _ _ _ (@wpAny_bind _ _ _ _ _ _ _ _ _ ?_)))
  refine wpAny_nsSet1 (s := { s with toks := s.toks + 1 }) hns fun h' hn' hs => ?_
  obtain ⟨oD, esD, epD, hoD, hdD, hcD⟩ := hn'.count (Within.cons _ v hw)
  refine @wpAny_bind _ _ _ _ _ _ _ _ _ (@wpAny_lookBehind _ _ _ _ _ _ _ _ hoD (by rw [hdD]; exact pastItsLine_dict (Nat.le_trans hcD (by rw [List.length_cons, sizeLine_eq]; omega))) ?_)
  exact @wpAny_pure _ _ _ _ _ _ _ (h h' hn' hs)
end
end Mine

end
section
open PySem PySem.W PyProof.Rows
set_option Elab.async false
namespace Mine

theorem nlt {a b : Nat} (h : a < b) : a < b := h
theorem neq {a b : Nat} (h : a = b) : a = b := h

section
variable {B : Bs} {A : Around} {O0 : List Addr} {G : Gh} {s : Shared} {sc : Kd} {env : Env} {V : List Addr} {Γ : Gm} {E : Value → Shared → Prop}
/-- more is known of a thing -/
theorem Fm.know {x : Str} {a : Addr} {d : D} (f : Fm B O0 G s sc env V Γ []) (hx : look Γ x = some (.ref a)) (r : Rd G s.heap (.ref a) d) : Fm B O0 G s sc env V (put Γ x d) [] :=
  ⟨f.vo, f.oo, f.tb, f.nw, f.ow, f.kn, f.cz, put Γ x d, fun _ => 0, fun _ => [], f.se.know hx r, fun _ _ h => h, fun _ _ h => (nomatch h), fun _ _ _ _ h => (nomatch h)⟩
theorem Fm.drop (f : Fm B O0 G s sc env V Γ []) : ∃ G', Tr B O0 G s G' s ∧ Fm B O0 G' s sc env V Γ [] ∧ (∀ a ∈ G'.O, a ∈ G.O ∧ (a ∈ O0 ∨ a ∈ V ∨ ∃ y, env.cells.lookup y = some a)) := by
  classical
  let P : Addr → Bool := fun a => decide (a ∈ O0 ∨ a ∈ V ∨ ∃ y, env.cells.lookup y = some a)
  have hsub : ∀ a ∈ G.O.filter P, a ∈ G.O := fun a ha => (List.mem_filter.mp ha).1
  have hO : ∀ a ∈ O0, a ∈ G.O.filter P := fun a ha => List.mem_filter.mpr ⟨f.oo a ha, by simp [P, ha]⟩
  have hV : ∀ a ∈ V, a ∈ G.O.filter P := fun a ha => List.mem_filter.mpr ⟨f.ow.sub a ha, by simp [P, ha]⟩
  have ht : ∀ a ∈ B.tb, a ∈ G.O.filter P := fun a ha => hO a (f.tb a ha)
  have up := Up.free (G := G) (h := s.heap) hsub
  have st' := f.st.free hsub ht
  refine ⟨{ G with O := G.O.filter P }, ⟨Kx.free (.refl f.st) hsub ht⟩, ⟨f.vo, hO, f.tb, fun a ha => f.nw a (hsub a ha), f.ow.gh hV, f.kn, f.cz, Γ, fun _ => 0, fun _ => [], f.se.gh st' up, fun _ _ h => h, fun _ _ h => (nomatch h), fun _ _ _ _ h => (nomatch h)⟩, fun a ha => ?_⟩
  obtain ⟨h1, h2⟩ := List.mem_filter.mp ha
  exact ⟨h1, by simpa [P] using h2⟩
end

theorem Room.under {m : Nat} {A : Around} {c : Code} (h : Room (m + 1) A) (h1 : c.weight = 1) (h2 : c.cUnits ≤ 8) : Room m (A.under c) := ⟨h.hd, by have := h.dep; show A.depth + c.weight + m < 900; omega, by have := h.un; show A.units + c.cUnits + 8 * m < 9000; omega⟩

section
variable {B : Bs} {L : Nat} {X : Nv} {q kk mm : Nat} {K : Frag} {C : Addr}
theorem mk_weight (C : Addr) (rest : List Value) (kw : List (Str × Value)) : (Code.builtin "type.__call__" ⟨.ref C :: rest, kw⟩).weight = 1 ∧ (Code.builtin "type.__call__" ⟨.ref C :: rest, kw⟩).cUnits ≤ 8 := ⟨by kernel_rfl, by show (1 : Nat) ≤ 8; decide⟩

theorem hdr_new (nv : NvOk B L X) (kb : KB B K) (hk : HdK K C) {fI : Addr} {fd : FuncData} {body : List Stmt} {scope : Scope} {sn hn : Str} {t1 t4 : Stmt} {te : Expr} {tb : List Stmt} {tp p1 p2 p3 p4 : Pos} {xs : List D} {Γ1 : Addr → Addr → Gm}
    (fc0 : FcAt B B.h0 fI body scope [] fd) (hsc : scOk scope = true) (hnf : noFree scope.names = true) (hs1 : storable scope.names sn = true) (hs2 : storable scope.names hn = true) (hne : hn ≠ sn)
    (hbind : ∀ u v (s : Shared), K.In s.heap → BindsTo s fd ⟨[u, v], []⟩ [(sn, u), (hn, v)]) (hfi : findIn K (.ref C) "__init__" = some (some (.ref fI))) (hft : typeIn K (.ref fI) = some (.type "function"))
    (hb : body = [t1, .If te tb [] tp, .Assign [.Attribute (.Name sn p1) "_headers" p2] (.Name hn p3) p4, t4])
    (h1 : ∀ x l, evSs (evS noHk (evE X q) kk (mm + 2)) scope.names [t1] (bindPs [] [sn, hn] [.ref x, .ref l]) [] = some (.nxt, Γ1 x l, []))
    (hg1 : ∀ x l, look (Γ1 x l) sn = some (.ref x)) (hg2 : ∀ x l, look (Γ1 x l) hn = some (.ref l))
    (h2 : ∀ x l, evE X q scope.names (put (Γ1 x l) hn (.lst xs)) te = some (.bool false))
    (h3 : ∀ x l, evE X q scope.names (Γ1 x l) (.Name hn p3) = some (.ref l)) (h3' : ∀ x l, evE X q scope.names (Γ1 x l) (.Name sn p1) = some (.ref x))
    (h4 : ∀ x l, ∃ Γ4, evSs (evS noHk (evE X q) kk (mm + 2)) scope.names [t4] (put (put (Γ1 x l) hn (.lst xs)) sn (.hdr C xs)) [] = some (.nxt, Γ4, []))
    {A : Around} {G : Gh} {s : Shared} {l : Nat} {items : Array Value} {n : Nat} {Q : Value → Shared → Prop} {E : Value → Shared → Prop} (rm : Room (L + 2) A) (st : St B G s) (hlO : l ∉ G.O) (hl : LstAt s.heap l items n) (hd : RdL G s.heap items.toList xs)
    (hQ : ∀ (a dx : Nat) G' s', Ke B G s G' s' → s.heap.objs.size ≤ a → s.heap.objs.size ≤ dx → a < s'.heap.objs.size → dx < s'.heap.objs.size → s'.heap.get? a = some ({ cls := .ref C, dict := some dx, data := .plain } : Obj) → dx ≠ a →
      s'.heap.Ns1 dx (fun x => if x = ("_headers" : Str) then some (.ref l) else none) → LstAt s'.heap l items n → RdL G' s'.heap items.toList xs → Q (.ref a) s') : WP B A (call (.ref C) [.ref l]) Q E s := by
  obtain ⟨hh, gn, dr, tk, os⟩ := s
  refine ⟨@wpAny_call _ _ _ _ _ _ _ _ (make_core (rest := [.ref l]) (kw := []) (makes_of (kb.st st) hk.mks) (looks_findIn (kb.st st) hfi) (fun self => bind_fn (kb.st st) self hft) (.inl rfl) ?_)⟩
  have k1 : Ke B G ⟨hh, gn, dr, tk, os⟩ G ⟨(hh.push emptyDict).push (instObj C hh.objs.size), gn, dr, tk, os⟩ := Ke.of st (h' := (hh.push emptyDict).push (instObj C hh.objs.size)) (fun b o e => Heap.get?_push_of_some _ (Heap.get?_push_of_some _ e)) (Nat.le_refl _) (by show hh.objs.size ≤ ((hh.push emptyDict).push _).objs.size; rw [Heap.size_push, Heap.size_push]; omega)
  have hz2 : ((hh.push emptyDict).push (instObj C hh.objs.size)).objs.size = hh.objs.size + 2 := by rw [Heap.size_push, Heap.size_push]
  have hdx : ((hh.push emptyDict).push (instObj C hh.objs.size)).get? hh.objs.size = some emptyDict := Heap.get?_push_of_some _ (Heap.get?_push_size _ rfl)
  have hx : ((hh.push emptyDict).push (instObj C hh.objs.size)).get? (hh.objs.size + 1) = some (instObj C hh.objs.size) := by
    have := Heap.get?_push_size (hh.push emptyDict) (o := instObj C hh.objs.size) rfl
    rwa [Heap.size_push] at this
  have hlt : l < hh.objs.size := nlt (Heap.lt_size hl)
  have kxo : Kx B [] G ⟨hh, gn, dr, tk, os⟩ { G with O := hh.objs.size :: G.O } ⟨(hh.push emptyDict).push (instObj C hh.objs.size), gn, dr, tk, os⟩ :=
    Kx.own st k1 (fun a ha => (List.mem_cons.mp ha).elim (fun e => .inr ⟨Nat.le_of_eq e.symm, by rw [e]; show hh.objs.size < ((hh.push emptyDict).push _).objs.size; rw [hz2]; omega⟩) .inl) fun a ha => List.mem_cons_of_mem _ ha
  have st1 := kxo.st st (fun _ h => nomatch h)
  have up1 := kxo.up st (fun _ h => nomatch h)
  have hl1 : LstAt ((hh.push emptyDict).push (instObj C hh.objs.size)) l items n := Heap.get?_push_of_some _ (Heap.get?_push_of_some _ hl)
  generalize hdxe : hh.objs.size = dx at *
  generalize hH : (hh.push emptyDict).push (instObj C dx) = H at *
  have rmU : Room (L + 1) (A.under (.builtin "type.__call__" ⟨[.ref C, .ref l], []⟩)) := rm.under (mk_weight C _ _).1 (mk_weight C _ _).2
  have h0dx : B.h0.get? dx = none := st.fresh0 (Nat.le_of_eq hdxe)
  have htb : dx ∉ B.tb := not_tb h0dx
  refine enter_cp (m := L) (ds := [.ref (dx + 1), .ref l]) (fc0.st st1) hsc (fun A' E' Qb hq => hbind _ _ _ (kb.st st1) _ A' E' Qb hq) ?_ st1 (Clo.none hnf) (.cons (.ref _) (.cons (.ref _) .nil)) rmU fun env G2 s2 V Q1 E1 f2 kx2 hO hV _ _ hcells hq1 hq2 rm2 => ?_
  · intro p hp
    rcases List.mem_cons.mp hp with e | e
    · rw [e]; exact hs1
    · rw [List.mem_singleton.mp e]; exact hs2
  have okS := evS_ok (H := noHk) nv noHk_ok q kk (mm + 2)
  have okE := (evE_ok nv q).1
  have okT := (evE_ok nv q).2
  rw [hb]
  refine ss_then (pre := [t1]) okS rm2 (h1 (dx + 1) l) f2 fun G3 s3 t3 f3 => ?_
  -- what stands
  have hVne : ∀ b : Nat, b ∈ V → dx + 2 ≤ b := fun b hb => by have := hV b hb; rwa [show (⟨H, gn, dr, tk, os⟩ : Shared).heap.objs.size = dx + 2 from hz2] at this
  have keepO : ∀ (b : Nat) (o : Obj), b < dx + 2 → b ∉ B.tb → b ∉ G.O → b ≠ dx → H.get? b = some o → ∀ {G' s'}, Tr B (dx :: G.O) G2 s2 G' s' → s'.heap.get? b = some o := fun b o h1 h2 h3 h4 e G' s' t => by
    refine t.kx.kw.kp b o (fun m => ?_) (kx2.kw.kp b o (fun m => h2 (by simpa using m)) e)
    rcases List.mem_append.mp m with m | m
    · obtain ⟨g1, g2⟩ := mem_Wn.mp m
      rcases (hO b).mp g1 with w | w
      · have := hVne b w; omega
      · exact g2 w
    · exact h2 m
  have xnO : dx + 1 ∉ G.O := fun m => by have := nlt (st.lt _ m); rw [show (⟨hh, gn, dr, tk, os⟩ : Shared).heap.objs.size = dx from hdxe] at this; omega
  have dxnO : dx ∉ G.O := fun m => by have := nlt (st.lt _ m); rw [show (⟨hh, gn, dr, tk, os⟩ : Shared).heap.objs.size = dx from hdxe] at this; omega
  have hxt : dx + 1 ∉ B.tb := fun m => xnO (st.sub _ m)
  have hlt' : l ∉ B.tb := fun m => hlO (st.sub _ m)
  have hx3 := keepO (dx + 1) _ (by omega) hxt xnO (by omega) hx t3
  have hl3 : LstAt s3.heap l items n := keepO l _ (by omega) hlt' hlO (by omega) hl1 t3
  have hdx3 : s3.heap.get? dx = some emptyDict := by
    refine t3.kx.kw.kp dx _ (fun m => ?_) (kx2.kw.kp dx _ (fun m => htb (by simpa using m)) hdx)
    rcases List.mem_append.mp m with m | m
    · exact (mem_Wn.mp m).2 List.mem_cons_self
    · exact htb m
  have up3 : Up { G with O := dx :: G.O } H G3 s3.heap := by
    have u1 := kx2.up st1 (fun _ h => nomatch h)
    have u2 := t3.up f2.st
    exact ⟨fun b o hb e => t3.kx.kw.kp b o (fun m => (List.mem_append.mp m).elim (fun m => (by
        obtain ⟨g1, g2⟩ := mem_Wn.mp m
        rcases (hO b).mp g1 with w | w
        · have := hVne b w; have := nlt (Heap.lt_size e); rw [hz2] at this; omega
        · exact g2 w)) fun m => hb (List.mem_cons_of_mem _ (st.sub _ m))) (kx2.kw.kp b o (fun m => hb (List.mem_cons_of_mem _ (st.sub _ (by simpa using m)))) e),
      fun a ha => (u2.o a ha).elim (fun m => u1.o a m) (fun e => .inr (by
        cases q : H.get? a with
        | none => rfl
        | some o =>
          by_cases hbt : a ∈ B.tb
          · exact absurd (st1.sub a hbt) (fun _ => by
              obtain ⟨vs, ev⟩ := f2.st.tg.some hbt
              rw [ev] at e; cases e)
          · rw [kx2.kw.kp a o (fun m => hbt (by simpa using m)) q] at e; cases e)), Nat.le_trans u1.n u2.n, fun t ht => (u2.τ t (Nat.lt_of_lt_of_le ht u1.n)).trans (u1.τ t ht)⟩
  have hlO3 : l ∉ G3.O := fun m => (up3.o l m).elim (fun m => (List.mem_cons.mp m).elim (fun e => by have := neq e; omega) hlO) fun e => by rw [hl1] at e; cases e
  have hd3 : RdL G3 s3.heap items.toList xs := (hd.up up1).up up3
  -- the list's kind
  refine ⟨@wpAny_execs_cons _ _ _ _ _ _ _ _ (@wpAny_If _ _ _ _ _ _ _ _ _ _ (okT scope.names _ te _ false (h2 (dx + 1) l) rfl _ _ _ env _ _ rm2 f3.kn (f3.se.know (hg2 _ _) (.lst hlO3 hl3 hd3)) fun G4 s4 k4 => ?_).w)⟩
  rw [if_neg (by simp)]
  refine @wpAny_execs_nil _ _ _ _ _ _ ?_
  have f4 := f3.ke k4
  -- the attribute
  refine @wpAny_execs_cons _ _ _ _ _ _ _ _ (@plainObj_wpAny_Assign_Attribute _ _ _ _ _ _ _ _ _ _ _ (okE scope.names _ _ _ (h3 (dx + 1) l) _ G4 s4 env _ _ rm2 f4.kn f4.se fun v5 G5 s5 k5 r5 => (okE scope.names _ _ _ (h3' (dx + 1) l) _ G5 s5 env _ _ rm2 f4.kn (f4.se.ke k5) fun v6 G6 s6 k6 r6 => ?_).w).w rfl)
  obtain rfl := r5.refI
  obtain rfl := r6.refI
  have k46 := (k4.trans k5).trans k6
  have f6 := f3.ke k46
  have hx6 : s6.heap.get? (dx + 1) = some (instObj C dx) := k46.kp _ _ (fun m => hxt (by simpa using m)) hx3
  have hl6 : LstAt s6.heap l items n := lst_kw hl3 k46 (fun h => nomatch h) hlt'
  have hdx6 : s6.heap.get? dx = some emptyDict := k46.kp _ _ (fun m => htb (by simpa using m)) hdx3
  have hns6 : s6.heap.Ns1 dx (fun _ => none) := Heap.Ns1.of_empty ⟨_, #[], _, hdx6, rfl, fun e he => absurd he (by simp), fun _ => rfl⟩
  refine (set_ok (kb.st f6.st) hk hx6 hns6 Within.nil (by simp) fun h' hn' hs' => ?_).w
  have k7 : Kw B [dx] G6 s6 G6 { s6 with heap := h', toks := s6.toks + 2 } := Kw.same1 f6.st (List.mem_singleton.mpr rfl) htb hs' (by omega) (.ns hns6.ns)
  have hcl : ∀ y (c : Nat), env.cells.lookup y = some c → c ≠ dx := fun y c hy e => by
    rcases hcells y c hy with w | w
    · have := hVne c w; omega
    · cases w
  have f7 := f6.kwO k7 List.mem_cons_self h0dx hcl
  have hx7 : h'.get? (dx + 1) = some (instObj C dx) := k7.kp _ _ (fun m => (List.mem_append.mp m).elim (fun m => by have := neq (List.mem_singleton.mp m); omega) hxt) hx6
  have hl7 : LstAt h' l items n := lst_kw (s' := { s6 with heap := h', toks := s6.toks + 2 }) hl6 k7 (fun m => by have := neq (List.mem_singleton.mp m); omega) hlt'
  have hd7 : RdL G6 h' items.toList xs := (hd3.ke f3.st k46).up (k7.up f6.st fun a ha => by rw [List.mem_singleton.mp ha]; exact f6.oo dx List.mem_cons_self)
  -- it is let go
  obtain ⟨G8, t8, f8, hO8⟩ := (f7.closeI h0dx).drop
  have nO8 : ∀ b : Nat, b < dx + 2 → b ∉ G.O → b ∉ G8.O := fun b hb hn m => by
    obtain ⟨_, g⟩ := hO8 b m
    rcases g with g | g | ⟨y, g⟩
    · exact hn g
    · have := hVne b g; omega
    · rcases hcells y b g with w | w
      · have := hVne b w; omega
      · cases w
  have hd8 : RdL G8 h' items.toList xs := hd7.up (t8.up f7.st)
  have hrd : Rd G8 h' (.ref (dx + 1)) (.hdr C xs) := .hdr (nO8 (dx + 1) (by omega) xnO) (nO8 dx (by omega) dxnO) (nO8 l (by omega) hlO) hx7 (Nat.ne_of_lt (Nat.lt_succ_self dx)) hn' hl7 hd8
  have f9 := (f8.know (hg2 (dx + 1) l) (.lst (nO8 _ (by omega) hlO) hl7 hd8)).know (x := sn) (a := dx + 1) (d := .hdr C xs) (by rw [look_put, if_neg (Ne.symm hne)]; exact hg1 _ _) hrd
  obtain ⟨Γ4, hΓ4⟩ := h4 (dx + 1) l
  refine (ss_ok okS rm2 hΓ4 f9 fun fl G10 s10 t10 f10 hfl => ?_).w
  cases fl <;> first | exact False.elim hfl | skip
  refine hq2 _ ⟨rfl, ?_⟩
  have Z : ∀ (b : Nat) (o : Obj), b < dx + 2 → b ∉ B.tb → b ∉ G.O → h'.get? b = some o → s10.heap.get? b = some o := fun b o h1 h2 h3 e => by
    refine t10.kx.kw.kp b o (fun m => ?_) e
    rcases List.mem_append.mp m with m | m
    · exact nO8 b h1 h3 (mem_Wn.mp m).1
    · exact h2 m
  have hn10 : s10.heap.Ns1 dx (fun x => if x = ("_headers" : Str) then some (.ref l) else none) := by
    obtain ⟨o, es, ep, e, w⟩ := hn'
    exact ⟨o, es, ep, Z dx o (by omega) htb dxnO e, w⟩
  -- from the start
  have hge : ∀ a : Nat, a ∈ Wn G2 (dx :: G.O) → a ∈ ([] : List Addr) ∨ dx ≤ a := fun a ha => by
    obtain ⟨g1, g2⟩ := mem_Wn.mp ha
    rcases (hO a).mp g1 with w | w
    · have := hVne a w; exact .inr (by omega)
    · exact absurd w g2
  have hsz0 : (⟨hh, gn, dr, tk, os⟩ : Shared).heap.objs.size = dx := hdxe
  have K1 := kxo.trans kx2 fun _ h => nomatch h
  have K3 := K1.trans t3.kx (fun a ha => by rw [hsz0]; exact hge a ha)
  have K6 := K3.ke k46 f3.st
  have K7 := K6.trans (Kx.of_kw f6.st k7) fun a ha => .inr (by rw [List.mem_singleton.mp ha, hsz0]; exact Nat.le_refl _)
  have hge2 : ∀ (G' : Gh), (∀ a ∈ G'.O, a ∈ G6.O) → ∀ a ∈ Wn G' G.O, a ∈ ([] : List Addr) ∨ (⟨hh, gn, dr, tk, os⟩ : Shared).heap.objs.size ≤ a := fun G' hG' a ha => by
    obtain ⟨g1, g2⟩ := mem_Wn.mp ha
    rcases K6.o a (hG' a g1) with w | w
    · exact absurd w g2
    · exact .inr w
  have K8 := K7.trans t8.kx (hge2 G6 fun _ h => h)
  have K10 := K8.trans t10.kx (hge2 G8 fun a ha => (hO8 a ha).1)
  have hsz10 : dx + 2 ≤ s10.heap.objs.size := by
    have e1 := kx2.sz; have e2 := t3.kx.sz; have e3 := k46.sz; have e4 := k7.sz; have e5 := t8.kx.sz; have e6 := t10.kx.sz
    have e0 : (⟨H, gn, dr, tk, os⟩ : Shared).heap.objs.size = dx + 2 := hz2
    have := Nat.le_trans (Nat.le_trans (Nat.le_trans (Nat.le_trans (Nat.le_trans e1 e2) e3) e4) e5) e6
    rwa [e0] at this
  refine hQ (dx + 1) dx { G10 with O := G.O } s10 K10.kw (Nat.le_succ _) (Nat.le_refl _) (by omega) (by omega) (Z _ _ (by omega) hxt xnO hx7) (by omega) hn10 (Z _ _ (by omega) hlt' hlO hl7) ?_
  exact (hd8.up (t10.up f8.st)).up (Up.free f10.oo)
end
end Mine

end
section
open PySem PySem.W PyProof.Rows
set_option Elab.async false
namespace Mine

/-! functions as they lie in the written heap -/
noncomputable def fdOf (K : Frag) (a : Addr) : FuncData := match K.lookup a with
  | some ⟨_, _, .func fd, _⟩ => fd
  | _ => default
noncomputable def fdGood (K : Frag) (a : Addr) : Bool := match K.lookup a with
  | some ⟨_, _, .func fd, _⟩ => (match fd.code with
      | .ref c => (match K.lookup c with
        | some ⟨.type "code", _, .fields vs, _⟩ => (match (vs[1]? : Option Value) with
          | some (.str q _) => strEq q fd.qualname
          | _ => false)
        | _ => false)
      | _ => false) && (fd.globals == mainGlobals) && (fd.builtins == builtinsNs) && fd.closure.isEmpty
  | _ => false
noncomputable def globA (K : Frag) (x : Str) : Addr := match nsIn K mainGlobals x with
  | some (some (.ref a)) => a
  | _ => 0
noncomputable def globOk (K : Frag) (x : Str) : Bool := match nsIn K mainGlobals x with
  | some (some (.ref _)) => true
  | _ => false
noncomputable def methA (K : Frag) (C : Addr) (x : Str) : Addr := match findIn K (.ref C) x with
  | some (some (.ref a)) => a
  | _ => 0
noncomputable def methOk (K : Frag) (C : Addr) (x : Str) : Bool := match findIn K (.ref C) x with
  | some (some (.ref a)) => typeIn K (.ref a) == some (.type "function")
  | _ => false
theorem globOk_mg {B : Bs} {K : Frag} (kb : KB B K) {x : Str} (h : globOk K x = true) : B.mg x = some (.ref (globA K x)) := by
  unfold globOk at h
  split at h
  · rename_i a e
    have : globA K x = a := by unfold globA; rw [e]
    rw [this]; exact mg_of kb.in0 B.hg e
  · first | exact nsd h | exact nft h | exact ntf h | cases h
theorem methOk_of {K : Frag} {C : Addr} {x : Str} (h : methOk K C x = true) : findIn K (.ref C) x = some (some (.ref (methA K C x))) ∧ typeIn K (.ref (methA K C x)) = some (.type "function") := by
  unfold methOk at h
  split at h
  · rename_i a e
    have : methA K C x = a := by unfold methA; rw [e]
    rw [this]; exact ⟨e, beq_iff_eq.mp h⟩
  · first | exact nsd h | exact nft h | exact ntf h | cases h

section
variable {B : Bs} {K : Frag} {a : Addr} {body : List Stmt} {scope : Scope}
theorem FcAt.of (kb : KB B K) (h : fdGood K a = true) (hs : (fdOf K a).scope = scope) (hb : (fdOf K a).body = .stmts body) : FcAt B B.h0 a body scope [] (fdOf K a) := by
  unfold fdGood at h
  split at h
  · rename_i o1 o2 fd o3 e
    have hfd : fdOf K a = fd := by unfold fdOf; rw [e]
    rw [hfd] at hs hb ⊢
    simp only [Bool.and_eq_true, beq_iff_eq, List.isEmpty_iff] at h
    obtain ⟨⟨⟨h1, h2⟩, h3⟩, h4⟩ := h
    split at h1
    · rename_i c hc
      split at h1
      · rename_i vs _ e2
        split at h1
        · rename_i qn t e3
          exact ⟨kb.no _ _ e, ⟨_, kb.in0 _ _ e, rfl⟩, hs, hb, h2, h3, h4, c, _, vs, t, hc, kb.in0 _ _ e2, rfl, rfl, by rw [e3, strEq_iff.mp h1]⟩
        · first | exact nsd h1 | exact nft h1 | exact ntf h1 | cases h1
      · first | exact nsd h1 | exact nft h1 | exact ntf h1 | cases h1
    · first | exact nsd h1 | exact nft h1 | exact ntf h1 | cases h1
  · first | exact nsd h | exact nft h | exact ntf h | cases h
theorem FnAt.of {F : Fn} (kb : KB B K) (h : fdGood K a = true) (hs : (fdOf K a).scope = F.scope) (hb : (fdOf K a).body = .stmts F.body) (ok : fnOk F = true) (hbind : ∀ vs : List Value, vs.length = F.ps.length → bindArgs (fdOf K a) ⟨vs, []⟩ = pure (F.ps.zip vs)) : FnAt B a F := by
  obtain ⟨nt, ⟨o, ho, hd⟩, f1, f2, f3, f4, f5, c, oc, vs, t, g1, g2, g3, g4, g5⟩ := FcAt.of kb h hs hb
  exact ⟨ok, o, _, ho, nt, hd, f1, f2, f3, f4, f5, ⟨c, oc, vs, t, g1, g2, code_not_tb g2 g3 (vs := vs), g4, g5⟩, hbind⟩
end
theorem len_succ {α : Type} {n : Nat} {vs : List α} (h : vs.length = n + 1) : ∃ a r, vs = a :: r ∧ r.length = n := by
  cases vs with
  | nil => exact absurd h.symm (Nat.succ_ne_zero n)
  | cons a r => exact ⟨a, r, rfl, Nat.succ.inj h⟩
theorem len_nil {α : Type} {vs : List α} (h : vs.length = 0) : vs = [] := List.length_eq_zero_iff.mp h
theorem bind1 {fd : FuncData} {x : Str} (h : ∀ a, bindArgs fd ⟨[a], []⟩ = pure [(x, a)]) (vs : List Value) (hl : vs.length = [x].length) : bindArgs fd ⟨vs, []⟩ = pure ([x].zip vs) := by
  obtain ⟨a, r, rfl, h1⟩ := len_succ hl
  obtain rfl := len_nil h1; exact h a
theorem bind2 {fd : FuncData} {x y : Str} (h : ∀ a b, bindArgs fd ⟨[a, b], []⟩ = pure [(x, a), (y, b)]) (vs : List Value) (hl : vs.length = [x, y].length) : bindArgs fd ⟨vs, []⟩ = pure ([x, y].zip vs) := by
  obtain ⟨a, r, rfl, h1⟩ := len_succ hl
  obtain ⟨b, r, rfl, h2⟩ := len_succ h1
  obtain rfl := len_nil h2; exact h a b
theorem bind3 {fd : FuncData} {x y z : Str} (h : ∀ a b c, bindArgs fd ⟨[a, b, c], []⟩ = pure [(x, a), (y, b), (z, c)]) (vs : List Value) (hl : vs.length = [x, y, z].length) : bindArgs fd ⟨vs, []⟩ = pure ([x, y, z].zip vs) := by
  obtain ⟨a, r, rfl, h1⟩ := len_succ hl
  obtain ⟨b, r, rfl, h2⟩ := len_succ h1
  obtain ⟨c, r, rfl, h3⟩ := len_succ h2
  obtain rfl := len_nil h3; exact h a b c

section
variable {B : Bs} {A : Around} {G : Gh} {s : Shared} {E : Value → Shared → Prop} {L : Nat} {rec : Sv}
/-- a function run by the evaluator -/
theorem run_fb {a : Addr} {body : List Stmt} {scope : Scope} {fd : FuncData} {pos : List Value} {kw : List (Str × Value)} {binds : List (Str × Value)} {ds : List D} {d : D} {Γ2 : Gm} {Ω2 : Om} {Q : Value → Shared → Prop}
    (fc : FcAt B s.heap a body scope [] fd) (hok : scOk scope = true) (hnf : noFree scope.names = true) (hbind : ∀ (A' : Around) (E' : Value → Shared → Prop) (Qb : List (Str × Value) → Shared → Prop), Qb binds s → wpAny B.M A' (bindArgs fd ⟨pos, kw⟩) Qb E' s)
    (hst : ∀ p ∈ binds, storable scope.names p.1 = true) (st : St B G s) (r : RdL G s.heap (binds.map (·.2)) ds) (rm : Room (L + 1) A) (ok : OkS B L rec)
    (h : evSs rec scope.names body (bindPs [] (binds.map (·.1)) ds) [] = some (.ret d, Γ2, Ω2)) (hQ : Post B G s d Q) : WP B A (call (.ref a) pos kw) Q E s := by
  refine enter_fb (m := L) fc hok hbind hst st (Clo.none hnf) r rm fun env G1 s1 V Q1 E1 f1 kx hO hV _ _ _ hq1 _ rm1 => ?_
  refine ss_ok ok rm1 h f1 fun fl G2 s2 t2 f2 hfl => ?_
  cases fl <;> first | exact False.elim hfl | skip
  exact hq1 _ _ (hQ _ _ _ (Fm.ke_of hO hV kx t2) (Rd.up (Up.free f2.oo) hfl))

noncomputable def orN (X : Nv) (f : Str → List D → Option D) : Nv := { X with N := fun x ds => match X.N x ds with
  | some d => some d
  | none => f x ds }
theorem orN_ok {X : Nv} {f : Str → List D → Option D} (nv : NvOk B L X) (h : ∀ x ds d, f x ds = some d → NvN B L x ds d) : NvOk B L (orN X f) := by
  refine ⟨fun x ds d e => ?_, nv.k, nv.m, nv.p, nv.t, nv.a, nv.kw⟩
  simp only [orN] at e
  split at e
  · rename_i hd; cases e; exact nv.n x ds _ hd
  · exact h x ds d e
noncomputable def orM (X : Nv) (f : Str → D → List D → Option D) : Nv := { X with M := fun x o ds => match X.M x o ds with
  | some d => some d
  | none => f x o ds }
theorem orM_ok {X : Nv} {f : Str → D → List D → Option D} (nv : NvOk B L X)
    (h : ∀ x d ds r, f x d ds = some r → NvM B L x d ds r) : NvOk B L (orM X f) := by
  refine ⟨nv.n, nv.k, fun x d ds r e => ?_, nv.p, nv.t, nv.a, nv.kw⟩
  simp only [orM] at e
  split at e
  · rename_i hd; cases e; exact nv.m x d ds _ hd
  · exact h x d ds r e
noncomputable def orMK (X : Nv) (f : Str → D → List D → Str → D → Option D) : Nv := { X with MK := fun x o ds kn kd => match X.MK x o ds kn kd with
  | some d => some d
  | none => f x o ds kn kd }
theorem orMK_ok {X : Nv} {f : Str → D → List D → Str → D → Option D} (nv : NvOk B L X)
    (h : ∀ m d ds kn kd r, f m d ds kn kd = some r → NvKw B L m d ds kn kd r) : NvOk B L (orMK X f) := by
  refine ⟨nv.n, nv.k, nv.m, nv.p, nv.t, nv.a, fun x d ds kn kd r e => ?_⟩
  simp only [orMK] at e
  split at e
  · rename_i hd; cases e; exact nv.kw x d ds kn kd _ hd
  · exact h x d ds kn kd r e
theorem FcAt.keep0 {a : Addr} {body : List Stmt} {scope : Scope} {cl : List (Str × Addr)} {fd : FuncData} (f : FcAt B B.h0 a body scope cl fd) : KeepOk B (.ref a) := by
  obtain ⟨o, ho, hd⟩ := f.ob
  exact .func ho f.nt hd

noncomputable def hdrOf (C : Addr) : D → Option (List D)
  | .hdr C' xs => match Nat.beq C' C with
    | true => some xs
    | false => none
  | _ => none
theorem hdrOf_eq {C : Addr} {d : D} {xs : List D} (h : hdrOf C d = some xs) : d = .hdr C xs := by
  cases d <;> first | exact nsd h | skip
  case hdr C' ys =>
    unfold hdrOf at h; dsimp only at h
    split at h
    · rename_i e
      rw [Nat.eq_of_beq_eq_true e, Option.some.inj h]
    · exact nsd h
theorem hdrOf_self {C : Addr} {xs : List D} : hdrOf C (.hdr C xs) = some xs := by unfold hdrOf; dsimp only; rw [Nat.beq_refl]
/-! the natives at the bottom: patterns, the headers' list -/
noncomputable def natM (p1 p2 : Addr) : Str → D → List D → Option D := fun m o ds => match strEq m "search" with
  | true => match refOf1 o with
    | some a => match sole strOf1 ds with
      | some x => match (Nat.beq a p1 || Nat.beq a p2) && Safe x with
        | true => some .none
        | false => none
      | none => none
    | none => none
  | false => none
noncomputable def natA (C : Addr) : Str → D → Option D := fun m o => match strEq m "_headers" with
  | true => match hdrOf C o with
    | some xs => some (.lst xs)
    | none => none
  | false => none
noncomputable def natK (p1 p2 : Addr) : Str → Option D := fun x => match strEq x "_DIV_LIMIT" with
  | true => some (.int 4000)
  | false => match strEq x "_name_disallowed_re" with
    | true => some (.ref p1)
    | false => match strEq x "_value_disallowed_re" with
      | true => some (.ref p2)
      | false => none
noncomputable def nat0 (C p1 p2 : Addr) : Nv := ⟨fun _ _ => none, natK p1 p2, natM p1 p2, natA C, fun _ _ _ _ _ => none⟩

structure Nat0 (B : Bs) (K : Frag) (C p1 p2 : Addr) : Prop where
  kb : KB B K
  hk : HdK K C
  pn : PatAt B.h0 p1 codeN
  pv : PatAt B.h0 p2 codeV
  kl : ∃ t, B.mg "_DIV_LIMIT" = some (.int 4000 t)
  kn : B.mg "_name_disallowed_re" = some (.ref p1)
  kv : B.mg "_value_disallowed_re" = some (.ref p2)
  p : ∀ x p, look prTab x = some p → B.mg x = none ∧ B.mb x = some p.1.val
  t : (B.mg "str" = none ∧ B.mb "str" = some (.type "str")) ∧ (B.mg "list" = none ∧ B.mb "list" = some (.type "list"))

theorem PatAt.st {p : Addr} {code : Array Nat} (h : PatAt B.h0 p code) (st : St B G s) : PatAt s.heap p code := by
  obtain ⟨o, vs, ct, ho, hc, hd, hdt, h6, h5, h2, oc, its, n, hoc, hod, hcode⟩ := h.ob
  refine ⟨o, vs, ct, st.kp p o (fun q => ?_) ho, hc, hd, hdt, h6, h5, h2, oc, its, n, st.kp ct oc (fun q => ?_) hoc, hod, hcode⟩
  · obtain ⟨vs', e⟩ := B.tab.some q
    rw [ho] at e; cases e; cases hc
  · obtain ⟨vs', e⟩ := B.tab.some q
    rw [hoc] at e; cases e; cases hod
theorem nat0_ok {K : Frag} {C p1 p2 : Addr} (n0 : Nat0 B K C p1 p2) : NvOk B L (nat0 C p1 p2) := by
  refine ⟨fun _ _ _ h => (nomatch h), fun x d h => ?_, fun m o ds r h => ?_, n0.p, n0.t, fun m d r h A G s E Q o ex st rd hQ => ?_, fun _ _ _ _ _ _ h => (nomatch h)⟩
  · simp only [nat0, natK] at h
    split at h
    · rename_i hx
      cases h
      obtain ⟨t, ht⟩ := n0.kl
      exact ⟨_, by rw [strEq_iff.mp hx]; exact ht, fun _ _ _ => .int _ _⟩
    · split at h
      · rename_i hx
        cases h
        exact ⟨_, by rw [strEq_iff.mp hx]; exact n0.kn, fun _ _ _ => .ref _⟩
      · split at h
        · rename_i hx
          cases h
          exact ⟨_, by rw [strEq_iff.mp hx]; exact n0.kv, fun _ _ _ => .ref _⟩
        · first | exact nsd h | exact nft h | exact ntf h | cases h
  · replace h : natM p1 p2 m o ds = some r := h
    unfold natM at h
    split at h
    · rename_i hm
      split at h
      · rename_i a ha
        split at h
        · rename_i x hx
          split at h
          · rename_i hc
            rw [Bool.and_eq_true] at hc
            obtain ⟨ha', hs⟩ := hc
            obtain rfl := strEq_iff.mp hm
            obtain rfl := refOf1_eq ha
            obtain ⟨dx, rfl, hx⟩ := sole_eq hx
            obtain rfl := strOf1_eq hx
            have hr := (Option.some.inj h).symm
            subst hr
            have hpat : ∃ code, (code = codeN ∨ code = codeV) ∧ PatAt B.h0 a code := by
              rw [Bool.or_eq_true] at ha'
              rcases ha' with e | e
              · exact ⟨_, .inl rfl, Nat.eq_of_beq_eq_true e ▸ n0.pn⟩
              · exact ⟨_, .inr rfl, Nat.eq_of_beq_eq_true e ▸ n0.pv⟩
            obtain ⟨code, hc, hp⟩ := hpat
            refine ⟨.builtin "re.Pattern.search", fun A G s E Q o pl st rd hq => ?_, .builtin _, fun A G s vs E Q rm st r hQ => ?_⟩
            · obtain rfl := rd.refI
              obtain ⟨ob, vs, ct, ho, hcl, hd, _⟩ := (hp.st st).ob
              exact ⟨@getMethod_builtin _ _ _ _ _ _ _ _ _ _ ⟨ob, ho, hcl⟩ SF.plainAttrs_pat SF.slot_search SF.type_search (fun b e => Value.ref.inj e ▸ ⟨ob, ho, hd⟩) hq⟩
            · obtain ⟨v, w, rfl, rv, rw'⟩ := r.two
              refine rw'.strK fun t => ?_
              obtain rfl := rv.refI
              exact ⟨search_ok (hp.st st) hc hs (hQ.val st .none)⟩
          · exact nsd h
        · exact nsd h
      · exact nsd h
    · exact nsd h
  · replace h : natA C m d = some r := h
    unfold natA at h
    split at h
    · rename_i hm
      split at h
      · rename_i xs hx
        obtain rfl := strEq_iff.mp hm
        obtain rfl := hdrOf_eq hx
        have hr := (Option.some.inj h).symm
        subst hr
        exact hdr_attr n0.kb n0.hk st rd hQ
      · exact nsd h
    · exact nsd h
end
end Mine

end
section
open PySem PySem.W PyProof.Rows
set_option Elab.async false
namespace Mine

/-! the evaluator by steps, on data that are not written -/
section
variable {X : Nv} {n k m : Nat} {sc : Kd} {Γ Γ1 : Gm} {Ω Ω1 : Om} {H : Hk} {ev : Kd → Gm → Expr → Option D}
theorem evE_bin {l r : Expr} {op : Operator} {p : Pos} {a b d : D} (h1 : evE X n sc Γ l = some a) (h2 : evE X n sc Γ r = some b) (h3 : binop op a b = some d) : evE X (n + 1) sc Γ (.BinOp l op r p) = some d := by
  show (match evE X n sc Γ l with
    | none => none
    | some a => match evE X n sc Γ r with
      | none => none
      | some b => binop op a b) = _
  rw [h1, h2]; exact h3
theorem evE_un {x : Expr} {op : UnaryOp} {p : Pos} {a d : D} (h1 : evE X n sc Γ x = some a) (h3 : unop op a = some d) : evE X (n + 1) sc Γ (.UnaryOp op x p) = some d := by
  show (match evE X n sc Γ x with
    | none => none
    | some a => unop op a) = _
  rw [h1]; exact h3
theorem evE_if {t b o : Expr} {p : Pos} {c : D} {v : Bool} {d : D} (h1 : evE X n sc Γ t = some c) (h2 : truth c = some v) (h3 : evE X n sc Γ (cond v b o) = some d) : evE X (n + 1) sc Γ (.IfExp t b o p) = some d := by
  show (match evE X n sc Γ t with
    | none => none
    | some c => match truth c with
      | none => none
      | some true => evE X n sc Γ b
      | some false => evE X n sc Γ o) = _
  rw [h1]; dsimp only; rw [h2]; cases v <;> exact h3
theorem evE_cmp1 {l r : Expr} {op : CmpOp} {p : Pos} {a b : D} {c : Bool} (hm : lastMarks [op] [r] = false) (h1 : evE X n sc Γ l = some a) (h2 : evE X n sc Γ r = some b) (h3 : cmpD op a b = some c) : evE X (n + 1) sc Γ (.Compare l [op] [r] p) = some (.bool c) := by
  show (match lastMarks [op] [r] with
    | true => none
    | false => match evE X n sc Γ l with
      | none => none
      | some a => chainD (evE X n sc Γ) a [op] [r]) = _
  rw [hm, h1]
  show (match evE X n sc Γ r with
    | none => none
    | some b => match cmpD op a b with
      | none => none
      | some c => some (D.bool c)) = _
  rw [h2]; dsimp only; rw [h3]
theorem evE_call {x : Str} {px p : Pos} {as : List Expr} {ds : List D} {d : D} (h0 : strEq x "__debug__" = false) (hk : kc (look sc x) = .glo) (h1 : each (evE X n sc Γ) as = some ds) (h2 : X.N x ds = some d) : evE X (n + 1) sc Γ (.Call (.Name x px) as [] p) = some d := by
  show (match strEq x "__debug__" with
    | true => none
    | false => match kc (look sc x) with
      | .glo => match each (evE X n sc Γ) as with
        | none => none
        | some ds => match X.N x ds with
          | some d => some d
          | none => match look prTab x with
            | some p => primD p.1 ds
            | none => none
      | _ => none) = _
  rw [h0, hk]; dsimp only; rw [h1]; dsimp only; rw [h2]
theorem evE_prim {x : Str} {px p : Pos} {as : List Expr} {ds : List D} {d : D} {pr : Pr × Value} (h0 : strEq x "__debug__" = false) (hk : kc (look sc x) = .glo) (h1 : each (evE X n sc Γ) as = some ds) (h2 : X.N x ds = none) (h3 : look prTab x = some pr) (h4 : primD pr.1 ds = some d) : evE X (n + 1) sc Γ (.Call (.Name x px) as [] p) = some d := by
  show (match strEq x "__debug__" with
    | true => none
    | false => match kc (look sc x) with
      | .glo => match each (evE X n sc Γ) as with
        | none => none
        | some ds => match X.N x ds with
          | some d => some d
          | none => match look prTab x with
            | some p => primD p.1 ds
            | none => none
      | _ => none) = _
  rw [h0, hk]; dsimp only; rw [h1]; dsimp only; rw [h2]; dsimp only; rw [h3]; exact h4
theorem evE_meth {o : Expr} {mn : Str} {apos p : Pos} {as : List Expr} {d : D} {ds : List D} {r : D} (h0 : (apos.endLine == p.line) = true) (hb : baseOk o = true) (hl : Nat.ble as.length 20 = true) (h1 : evE X n sc Γ o = some d) (h2 : each (evE X n sc Γ) as = some ds)
    (h3 : (match look mtTab mn with | some t => methD t d ds | none => X.M mn d ds) = some r) : evE X (n + 1) sc Γ (.Call (.Attribute o mn apos) as [] p) = some r := by
  show (match apos.endLine == p.line with
    | false => none
    | true => match baseOk o with
      | false => none
      | true => match Nat.ble as.length 20 with
        | false => none
        | true => match evE X n sc Γ o with
          | none => none
          | some d => match each (evE X n sc Γ) as with
            | none => none
            | some ds => match look mtTab mn with
              | some t => methD t d ds
              | none => X.M mn d ds) = _
  rw [h0, hb, hl]; dsimp only; rw [h1]; dsimp only; rw [h2]; exact h3
theorem evE_methX {o : Expr} {mn : Str} {apos p : Pos} {as : List Expr} {d : D} {ds : List D} {r : D} (h0 : (apos.endLine == p.line) = true) (hb : baseOk o = true) (hl : Nat.ble as.length 20 = true) (hm : look mtTab mn = none) (h1 : evE X n sc Γ o = some d) (h2 : each (evE X n sc Γ) as = some ds)
    (h3 : X.M mn d ds = some r) : evE X (n + 1) sc Γ (.Call (.Attribute o mn apos) as [] p) = some r := evE_meth h0 hb hl h1 h2 (by rw [hm]; exact h3)
theorem evE_methK {o : Expr} {mn kn : Str} {apos p kp : Pos} {as : List Expr} {ve : Expr} {d kd : D} {ds : List D} {r : D} (h0 : (apos.endLine == p.line) = true) (hb : baseOk o = true) (hl : Nat.ble as.length 20 = true) (hne : as.isEmpty = false) (h1 : evE X n sc Γ o = some d) (h2 : each (evE X n sc Γ) as = some ds) (hk : evE X n sc Γ ve = some kd)
    (h3 : X.MK mn d ds kn kd = some r) : evE X (n + 1) sc Γ (.Call (.Attribute o mn apos) as [⟨some kn, ve, kp⟩] p) = some r := by
  show callK X (evE X n sc Γ) (.Attribute o mn apos) as [⟨some kn, ve, kp⟩] p = _
  unfold callK
  dsimp only
  rw [h0, hb, hl, hne]; dsimp only [kwOne, Bool.and_self, Bool.not_false]; rw [h1]; dsimp only; rw [h2]; dsimp only; rw [hk]; exact h3
theorem evE_attr {x : Str} {px p : Pos} {mn : Str} {d r : D} (h1 : evE X n sc Γ (.Name x px) = some d) (h2 : X.A mn d = some r) : evE X (n + 1) sc Γ (.Attribute (.Name x px) mn p) = some r := by
  show (match evE X n sc Γ (.Name x px) with
    | none => none
    | some d => X.A mn d) = _
  rw [h1]; exact h2
theorem evE_tup {es : List Expr} {c : Nat} {p : Pos} {ds : List D} (h : each (evE X n sc Γ) es = some ds) (hl : Nat.ble ds.length 1000 = true) : evE X (n + 1) sc Γ (.Tuple es c p) = some (.tup ds) := by
  show (match each (evE X n sc Γ) es with
    | none => none
    | some ds => match Nat.ble ds.length 1000 with
      | true => some (D.tup ds)
      | false => none) = _
  rw [h]; dsimp only; rw [hl]
theorem evE_lst {es : List Expr} {p : Pos} {ds : List D} (h : each (evE X n sc Γ) es = some ds) (hl : Nat.ble ds.length 1000 = true) : evE X (n + 1) sc Γ (.List es p) = some (.lst ds) := by
  show (match each (evE X n sc Γ) es with
    | none => none
    | some ds => match Nat.ble ds.length 1000 with
      | true => some (D.lst ds)
      | false => none) = _
  rw [h]; dsimp only; rw [hl]
theorem subD_plain {f : Expr → Option D} {v i : Expr} {a : D} (hs : isSlice i = false) (h1 : f v = some a) : subD f v i = (match f i with | none => none | some b => itemD a b) := by
  unfold subD
  rw [h1]; dsimp only
  cases i <;> first | exact ntf hs | rfl
theorem evE_item {v i : Expr} {p : Pos} {a b d : D} (hs : isSlice i = false) (h1 : evE X n sc Γ v = some a) (h2 : evE X n sc Γ i = some b) (h3 : itemD a b = some d) : evE X (n + 1) sc Γ (.Subscript v i p) = some d := by
  show subD (evE X n sc Γ) v i = _
  rw [subD_plain hs h1, h2]; exact h3
theorem evE_slice {v : Expr} {lo hi st : Option Expr} {p sp : Pos} {a d : D} {l h q : Option Int} (h1 : evE X n sc Γ v = some a) (h2 : partE (evE X n sc Γ) lo = some l) (h3 : partE (evE X n sc Γ) hi = some h) (h4 : partE (evE X n sc Γ) st = some q) (h5 : sliceD a l h q = some d) :
    evE X (n + 1) sc Γ (.Subscript v (.Slice lo hi st sp) p) = some d := by
  show subD (evE X n sc Γ) v (.Slice lo hi st sp) = _
  unfold subD
  rw [h1]; dsimp only; rw [h2]; dsimp only; rw [h3]; dsimp only; rw [h4]; exact h5
theorem each_cons {f : Expr → Option D} {e : Expr} {r : List Expr} {d : D} {ds : List D} (hs : isStar e = false) (h1 : f e = some d) (h2 : each f r = some ds) : each f (e :: r) = some (d :: ds) := by
  show (match isStar e with
    | true => none
    | false => match f e with
      | none => none
      | some d => match each f r with
        | none => none
        | some ds => some (d :: ds)) = _
  rw [hs]; dsimp only; rw [h1]; dsimp only; rw [h2]

/-- a comprehension -/
theorem evE_comp {elt : Expr} {g : Comprehension} {gs : List Comprehension} {scope : Scope} {p : Pos} {d : D} {xs out : List D} (h1 : allSync (g :: gs) = true) (h2 : isSet g.iter = false) (h3 : scopeOk sc scope = true) (h4 : evE X n sc Γ g.iter = some d) (h5 : iterD d = some xs)
    (h6 : compL (bindN scope.names (freeG Γ scope.names) g.target) (fun Γ' => testsD (evE X n scope.names Γ') g.ifs) (compI (evE X n) scope.names elt gs) xs = some out) (h7 : Nat.ble out.length 1000 = true) : evE X (n + 1) sc Γ (.ListComp elt (g :: gs) scope p) = some (.lst out) := by
  show compD (evE X n) sc Γ elt (g :: gs) scope = _
  unfold compD
  dsimp only
  rw [h1, h2, h3]; dsimp only; rw [h4]; dsimp only; rw [h5]; dsimp only; rw [h6]; dsimp only; rw [h7]
theorem compI_cons {rec : Ev} {elt : Expr} {g : Comprehension} {gs : List Comprehension} {d : D} {xs : List D} (h1 : isSet g.iter = false) (h2 : rec sc Γ g.iter = some d) (h3 : iterD d = some xs) :
    compI rec sc elt (g :: gs) Γ = compL (bindN sc Γ g.target) (fun Γ' => testsD (rec sc Γ') g.ifs) (compI rec sc elt gs) xs := by
  show (match isSet g.iter with
    | false => match rec sc Γ g.iter with
      | none => none
      | some d => match iterD d with
        | none => none
        | some xs => compL (bindN sc Γ g.target) (fun Γ' => testsD (rec sc Γ') g.ifs) (compI rec sc elt gs) xs
    | true => none) = _
  rw [h1]; dsimp only; rw [h2]; dsimp only; rw [h3]
theorem compI_nil {rec : Ev} {elt : Expr} {d : D} (h : rec sc Γ elt = some d) : compI rec sc elt [] Γ = some [d] := by
  show (match rec sc Γ elt with
    | none => none
    | some d => some [d]) = _
  rw [h]
theorem compL_flat {α : Type} {bind : D → Option Gm} {tests : Gm → Option Bool} {inner : Gm → Option (List D)} {f : α → D} {p : α → Bool} {g : α → List D} : ∀ {l : List α}, (∀ x ∈ l, ∃ Γ, bind (f x) = some Γ ∧ tests Γ = some (p x) ∧ (p x = true → inner Γ = some (g x))) →
    compL bind tests inner (l.map f) = some ((l.filter p).map g).flatten
  | [], _ => rfl
  | x :: l, h => by
    obtain ⟨Γ, h1, h2, h3⟩ := h x List.mem_cons_self
    have ih := compL_flat (l := l) fun y hy => h y (List.mem_cons_of_mem _ hy)
    rw [List.map_cons]
    show (match bind (f x) with
    | none => none
    | some Γ => match tests Γ with
      | none => none
      | some false => compL bind tests inner (l.map f)
      | some true => match inner Γ with
        | none => none
        | some o => match compL bind tests inner (l.map f) with
          | none => none
          | some r => some (o ++ r)) = _
    rw [h1]; dsimp only; rw [h2]
    cases hp : p x with
    | false => rw [List.filter_cons_of_neg (by simp [hp])]; exact ih
    | true => rw [List.filter_cons_of_pos hp]; dsimp only; rw [h3 hp, ih]; rfl
theorem compL_map {α : Type} {bind : D → Option Gm} {tests : Gm → Option Bool} {inner : Gm → Option (List D)} {f : α → D} {p : α → Bool} {g : α → D} {l : List α} (h : ∀ x ∈ l, ∃ Γ, bind (f x) = some Γ ∧ tests Γ = some (p x) ∧ (p x = true → inner Γ = some [g x])) :
    compL bind tests inner (l.map f) = some ((l.filter p).map g) := by
  rw [compL_flat (g := fun x => [g x]) h]
  congr 1
  induction (l.filter p) with
  | nil => rfl
  | cons x r ih => simp only [List.map_cons, List.flatten_cons, ih]; rfl
theorem filter_true {α : Type} (l : List α) : l.filter (fun _ => true) = l := List.filter_eq_self.mpr fun _ _ => rfl
/-- a comprehension without a test -/
theorem compL_all {α : Type} {bind : D → Option Gm} {tests : Gm → Option Bool} {inner : Gm → Option (List D)} {f : α → D} {g : α → D} {l : List α} (h : ∀ x ∈ l, ∃ Γ, bind (f x) = some Γ ∧ tests Γ = some true ∧ inner Γ = some [g x]) :
    compL bind tests inner (l.map f) = some (l.map g) := by
  have := compL_map (bind := bind) (tests := tests) (inner := inner) (f := f) (g := g) (p := fun _ => true) (l := l) fun x hx => let ⟨Γ, a, b, c⟩ := h x hx; ⟨Γ, a, b, fun _ => c⟩
  rw [this, filter_true]

/-! statements -/
theorem evF_of {f : Gm → Expr → Option D} {e : Expr} {d : D} (h : f Γ e = some d) : evF f Γ Ω e = some (d, Γ, Ω) := by unfold evF; rw [h]
theorem testD_of {f : Gm → Expr → Option D} {e : Expr} {d : D} {b : Bool} (h : f Γ e = some d) (hb : truth d = some b) : testD f Γ Ω e = some (b, Γ, Ω) := by
  unfold testD; rw [evF_of h]; dsimp only; rw [hb]
theorem evS_asg {x : Str} {px p : Pos} {v : Expr} {d : D} (hH : H.S sc Γ Ω (.Assign [.Name x px] v p) = none) (hx : storable sc x = true) (hl : isLst v = false) (h : ev sc Γ v = some d) : evS H ev k (m + 1) sc Γ Ω (.Assign [.Name x px] v p) = some (.nxt, put Γ x d, del Ω x) := by
  show (match H.S sc Γ Ω (.Assign [.Name x px] v p) with
    | some r => some r
    | none => assignD ev sc Γ Ω (.Name x px) v) = _
  rw [hH]; dsimp only
  unfold assignD; dsimp only
  rw [hx]; dsimp only; rw [hl]; dsimp only; rw [evF_of h]
theorem evS_own {x : Str} {px p : Pos} {v : Expr} {ds : List D} (hH : H.S sc Γ Ω (.Assign [.Name x px] v p) = none) (hx : storable sc x = true) (hl : isLst v = true) (h : ev sc Γ v = some (.lst ds)) : evS H ev k (m + 1) sc Γ Ω (.Assign [.Name x px] v p) = some (.nxt, del Γ x, putA Ω x (.lst ds)) := by
  show (match H.S sc Γ Ω (.Assign [.Name x px] v p) with
    | some r => some r
    | none => assignD ev sc Γ Ω (.Name x px) v) = _
  rw [hH]; dsimp only
  unfold assignD; dsimp only
  rw [hx]; dsimp only; rw [hl]; dsimp only; rw [evF_of h]
theorem evS_tup {ts : List Expr} {c : Nat} {tp p : Pos} {v : Expr} {d : D} (hH : H.S sc Γ Ω (.Assign [.Tuple ts c tp] v p) = none) (hv : isTup v = false) (h : ev sc Γ v = some d) (hb : bindT sc (.Tuple ts c tp) d Γ = some Γ1) :
    evS H ev k (m + 1) sc Γ Ω (.Assign [.Tuple ts c tp] v p) = some (.nxt, Γ1, delT Ω (.Tuple ts c tp)) := by
  show (match H.S sc Γ Ω (.Assign [.Tuple ts c tp] v p) with
    | some r => some r
    | none => assignD ev sc Γ Ω (.Tuple ts c tp) v) = _
  rw [hH]; dsimp only
  unfold assignD; dsimp only; rw [hv]; dsimp only; unfold tupD; rw [evF_of h]; dsimp only; rw [hb]
theorem evS_aug {x : Str} {px p : Pos} {op : Operator} {v : Expr} {a b d : D} (hH : H.S sc Γ Ω (.AugAssign (.Name x px) op v p) = none) (hx : storable sc x = true) (hc : strEq x "__classdict__" = false) (hl : look Γ x = some a) (h : ev sc Γ v = some b) (ho : inpOp op a b = some d) :
    evS H ev k (m + 1) sc Γ Ω (.AugAssign (.Name x px) op v p) = some (.nxt, put Γ x d, del Ω x) := by
  show (match H.S sc Γ Ω (.AugAssign (.Name x px) op v p) with
    | some r => some r
    | none => augD (ev sc) sc Γ Ω x op v) = _
  rw [hH]; dsimp only
  unfold augD; rw [hx]; dsimp only; rw [hc]; dsimp only; rw [hl]; dsimp only; rw [h]; dsimp only; rw [ho]
theorem evS_IfH {t : Expr} {b o : List Stmt} {p : Pos} {c : Bool} (hH : H.S sc Γ Ω (.If t b o p) = none) (h : testD (ev sc) Γ Ω t = some (c, Γ1, Ω1)) : evS H ev k (m + 1) sc Γ Ω (.If t b o p) = evSs (evS H ev k m) sc (cond c b o) Γ1 Ω1 := by
  show (match H.S sc Γ Ω (.If t b o p) with
    | some r => some r
    | none => match testD (ev sc) Γ Ω t with
      | none => none
      | some (c, Γ1, Ω1) => match c with
        | true => evSs (evS H ev k m) sc b Γ1 Ω1
        | false => evSs (evS H ev k m) sc o Γ1 Ω1) = _
  rw [hH]; dsimp only; rw [h]; cases c <;> rfl
theorem evS_RetH {e : Expr} {d : D} {p : Pos} (hH : H.S sc Γ Ω (.Return (some e) p) = none) (h : ev sc Γ e = some d) : evS H ev k (m + 1) sc Γ Ω (.Return (some e) p) = some (.ret d, Γ, Ω) := by
  show (match H.S sc Γ Ω (.Return (some e) p) with
    | some r => some r
    | none => match evF (ev sc) Γ Ω e with
        | none => none
        | some (d, Γ1, Ω1) => some (Fl.ret d, Γ1, Ω1)) = _
  rw [hH]; dsimp only; rw [evF_of h]
theorem evS_ForH {t i : Expr} {b : List Stmt} {p : Pos} {d : D} {xs : List D} (hH : H.S sc Γ Ω (.For t i b [] p) = none) (hs : isSet i = false) (h : ev sc Γ i = some d) (hi : iterD d = some xs) : evS H ev k (m + 1) sc Γ Ω (.For t i b [] p) = forD sc t (evSs (evS H ev k m) sc b) xs Γ Ω := by
  show (match H.S sc Γ Ω (.For t i b [] p) with
    | some r => some r
    | none => match ([] : List Stmt), isSet i with
      | [], false => match evF (ev sc) Γ Ω i with
        | none => none
        | some (d, Γ1, Ω1) => match iterD d with
          | none => none
          | some xs => forD sc t (evSs (evS H ev k m) sc b) xs Γ1 Ω1
      | _, _ => none) = _
  rw [hH]; dsimp only; rw [hs]; dsimp only; rw [evF_of h]; dsimp only; rw [hi]
theorem evS_dropK {f : Expr} {args : List Expr} {kw : Keyword} {kws : List Keyword} {cp p : Pos} {d : D} (hH : H.S sc Γ Ω (.Expr (.Call f args (kw :: kws) cp) p) = none) (h : ev sc Γ (.Call f args (kw :: kws) cp) = some d) (hp : plainD d = true) :
    evS H ev k (m + 1) sc Γ Ω (.Expr (.Call f args (kw :: kws) cp) p) = some (.nxt, Γ, Ω) := by
  show (match H.S sc Γ Ω (.Expr (.Call f args (kw :: kws) cp) p) with
    | some r => some r
    | none => dropD (ev sc) Γ Ω (.Call f args (kw :: kws) cp)) = _
  rw [hH]; dsimp only
  unfold dropD
  rw [evF_of h]; dsimp only; rw [hp]
theorem testsD_one {f : Expr → Option D} {e : Expr} {b : Bool} (h : f e = some (.bool b)) : testsD f [e] = some b := by
  show (match f e with
    | none => none
    | some d => match truth d with
      | none => none
      | some true => testsD f []
      | some false => some false) = _
  rw [h]; cases b <;> rfl
/-- a loop by what holds between the turns -/
theorem forD_inv {α : Type} {t : Expr} {body : Gm → Om → Option Rs} {f : α → D} (I : List α → Gm → Om → Prop) : ∀ (l done : List α) (Γ : Gm) (Ω : Om), I done Γ Ω →
    (∀ done x Γ Ω, (∃ rest, done ++ x :: rest = done ++ x :: rest) → I done Γ Ω → x ∈ l → ∃ Γ1 Γ2 Ω2, bindT sc t (f x) Γ = some Γ1 ∧ body Γ1 (delT Ω t) = some (.nxt, Γ2, Ω2) ∧ I (done ++ [x]) Γ2 Ω2) →
    ∃ Γ2 Ω2, forD sc t body (l.map f) Γ Ω = some (.nxt, Γ2, Ω2) ∧ I (done ++ l) Γ2 Ω2
  | [], done, Γ, Ω, h, _ => ⟨Γ, Ω, rfl, by simpa using h⟩
  | x :: l, done, Γ, Ω, h, hs => by
    obtain ⟨Γ1, Γ2, Ω2, h1, h2, h3⟩ := hs done x Γ Ω ⟨l, rfl⟩ h List.mem_cons_self
    obtain ⟨Γ3, Ω3, h4, h5⟩ := forD_inv I l (done ++ [x]) Γ2 Ω2 h3 fun d y Γ Ω e hi hm => hs d y Γ Ω e hi (List.mem_cons_of_mem _ hm)
    refine ⟨Γ3, Ω3, ?_, by simpa using h5⟩
    rw [List.map_cons]
    show (match bindT sc t (f x) Γ with
    | none => none
    | some Γ1 => match body Γ1 (delT Ω t) with
      | none => none
      | some (fl, Γ2, Ω2) => match fl with
        | .nxt => forD sc t body (l.map f) Γ2 Ω2
        | .cnt => forD sc t body (l.map f) Γ2 Ω2
        | .brk => some (.nxt, Γ2, Ω2)
        | .ret d => some (.ret d, Γ2, Ω2)) = _
    rw [h1]; dsimp only; rw [h2]; exact h4
end

theorem mul_D {a b : Int} (hs : Builtin.Int.intBits b ≤ 64) : binop .Mult (.int a) (.int b) = some (.int (a * b)) := by
  refine if_neg ?_
  intro q
  simp only [Bool.and_eq_true, decide_eq_true_eq] at q
  have := q.1.2
  have e : shortFactorBits = 64 := rfl
  omega
theorem len_D {xs : List D} (h : (xs.length : Int) < 2 ^ 63) : primD .len [.lst xs] = some (.int xs.length) := by
  show lenP (.lst xs) = _
  unfold lenP
  simp only [h, if_true]
theorem lenS_D {x : Str} (h : (x.length : Int) < 2 ^ 63) : primD .len [.str x] = some (.int x.length) := by
  show lenP (.str x) = _
  unfold lenP
  simp only [h, if_true]
theorem intBits_nat {n k : Nat} (h : n < 2 ^ k) : Builtin.Int.intBits (n : Int) ≤ k := intBits_le (Int.natCast_nonneg _) (by have : ((n : Nat) : Int) < ((2 ^ k : Nat) : Int) := Int.ofNat_lt.mpr h; simpa using this)
theorem noPy {a b : Int} (h : b.natAbs < 2 ^ 9000) : Builtin.divisionGoesByPylong a b = false := by
  unfold Builtin.divisionGoesByPylong
  have : ¬ ((if b == 0 then 0 else b.natAbs.log2 / 30 + 1) > 300) := by
    split
    · omega
    · rename_i hb
      have h2 : b.natAbs.log2 < 9000 := (Nat.log2_lt (by simpa using hb)).mpr h
      omega
  simp only [decide_eq_false this, Bool.false_and]
theorem fdv_D {a b : Int} (hb : b ≠ 0) (h : b.natAbs < 2 ^ 9000) : binop .FloorDiv (.int a) (.int b) = some (.int (a.fdiv b)) := by
  refine if_neg ?_
  rintro (q | q)
  · exact hb q
  · rw [noPy h] at q; cases q
theorem dvm_D {a b : Int} (hb : b ≠ 0) (h : b.natAbs < 2 ^ 9000) : primD .divmod [.int a, .int b] = some (.tup [.int (a.fdiv b), .int (a.fmod b)]) := by
  refine if_neg ?_
  rintro (q | q)
  · exact hb q
  · rw [noPy h] at q; cases q
theorem nat9 {n : Nat} (h : n ≤ 2 ^ 14) : (n : Int).natAbs < 2 ^ 9000 := by
  have h1 : n < 2 ^ 15 := by omega
  exact Nat.lt_of_lt_of_le h1 (Nat.pow_le_pow_right (by decide) (by decide))
theorem lt_pow_bits (x : Nat) : x < 2 ^ Builtin.Int.intBits (x : Int) := by
  unfold Builtin.Int.intBits
  by_cases h : x = 0
  · subst h; simp
  · rw [if_neg (by simpa using h)]
    exact Nat.lt_log2_self
theorem shl_D {a n : Int} (h0 : 0 ≤ n) (hs : (Builtin.Int.intBits a : Int) + n ≤ 2 ^ 27) : binop .LShift (.int a) (.int n) = some (.int (a * 2 ^ n.toNat)) := by
  exact if_pos ⟨h0, hs⟩
theorem shr_D {a n : Int} (h0 : 0 ≤ n) : binop .RShift (.int a) (.int n) = some (.int (a.fdiv (2 ^ n.toNat))) := by
  exact if_pos h0
end Mine

end
section
open PySem PySem.W PyProof.Rows
set_option Elab.async false
set_option maxRecDepth 100000
namespace Mine

noncomputable def Pb : List Stmt := PySem.Challenge.pw_pu0068_02.main.body
noncomputable def defOf (x : Str) : List Stmt → Stmt
  | [] => .Pass default
  | .FunctionDef name args body a b c scope d e f :: r => match strEq x name with
    | true => .FunctionDef name args body a b c scope d e f
    | false => defOf x r
  | _ :: r => defOf x r
noncomputable def clsOf (x : Str) : List Stmt → List Stmt
  | [] => []
  | .ClassDef name _ _ body _ _ _ _ _ _ _ :: r => match strEq x name with
    | true => body
    | false => clsOf x r
  | _ :: r => clsOf x r
noncomputable def stBody : Stmt → List Stmt
  | .FunctionDef _ _ b _ _ _ _ _ _ _ => b
  | _ => []
noncomputable def stScope : Stmt → Scope
  | .FunctionDef _ _ _ _ _ _ s _ _ _ => s
  | _ => default
noncomputable def stArgs : Stmt → Arguments
  | .FunctionDef _ a _ _ _ _ _ _ _ _ => a
  | _ => default
noncomputable def stPos : Stmt → Pos
  | .FunctionDef _ _ _ _ _ _ _ _ _ p => p
  | _ => default
noncomputable def fnOf (s : Stmt) : Fn := ⟨(stArgs s).args.map (·.arg), stBody s, stScope s⟩

/-! the pieces of a text -/
noncomputable def dI2d : Stmt := defOf "_int2digits" Pb
noncomputable def dI2i : Stmt := (stBody dI2d).getD 1 (.Pass default)
noncomputable def dD2i : Stmt := defOf "_digits2int" Pb
noncomputable def dD2n : Stmt := (stBody dD2i).getD 0 (.Pass default)
noncomputable def asV : Stmt → Expr
  | .Assign _ v _ => v
  | .Return (some v) _ => v
  | .Expr v _ => v
  | .If t _ _ _ => t
  | .For _ i _ _ _ => i
  | _ => .Constant .none 0 default
noncomputable def boL : Expr → Expr
  | .BinOp l _ _ _ => l
  | .IfExp t _ _ _ => t
  | .Subscript v _ _ => v
  | e => e
noncomputable def boR : Expr → Expr
  | .BinOp _ _ r _ => r
  | .IfExp _ _ o _ => o
  | .Subscript _ i _ => i
  | e => e
noncomputable def argE (i : Nat) : Expr → Expr
  | .Call _ as _ _ => as.getD i (.Constant .none 0 default)
  | .List es _ => es.getD i (.Constant .none 0 default)
  | e => e
noncomputable def ifB : Stmt → List Stmt
  | .If _ b _ _ => b
  | .For _ _ b _ _ => b
  | _ => []
noncomputable def tgt : Stmt → Expr
  | .Assign [t] _ _ => t
  | _ => .Constant .none 0 default


section
variable {B : Bs} {K : Frag} {C p1 p2 : Nat} {L : Nat}

/-- digits to a number -/
theorem d2i_nat (nv : NvOk B L (nat0 C p1 p2)) {a c P : Addr} {fd : FuncData} (fc0 : FcAt B B.h0 a (stBody dD2i) (stScope dD2i) [] fd) (hbind : ∀ v w, bindArgs fd ⟨[v, w], []⟩ = pure [(Str.ofString "digits", v), (Str.ofString "n", w)])
    (hcode : fd.code = .ref c) (Ch : CodeHd B.h0 c P) (hP : P ∈ B.tb) (hdn : B.dn P = (stPos dD2n, Str.ofString "_digits2int.<locals>.inner")) (hq : fd.qualname = "_digits2int") (hbm : B.h0.BuiltinsAt B.mg P)
    {ds : List Int} {n : Nat} (hds : ∀ d ∈ ds, 0 ≤ d ∧ d < 2 ^ n) (hlen : ds.length ≤ 64) (hn : n ≤ 2 ^ 14) : OkCall B (L + 70) (.ref a) [.lst (ds.map D.int), .int n] (.int (val n ds)) := by
  have hll : (((ds.map D.int).length : Nat) : Int) < 2 ^ 63 := by rw [List.length_map]; omega
  refine d2i_ok (dx := "digits") (nx := "n") (Lx := "L") (Rx := "R") (nm := "inner") (q := 12) (kk := 9) (mm := 10) nv fc0 rfl rfl rfl rfl hbind hcode Ch hP hdn (by rw [hq]; rfl) hbm rfl rfl rfl (fun _ => rfl) rfl rfl (fun fa => by kernel_rfl) (fun fa => ?_) (fun fa => by kernel_rfl)
    rfl rfl rfl (fun doc pm c' ctv cl v w => by kernel_rfl) rfl hds hlen hn rfl rfl rfl (fun fa L R => by kernel_rfl) (fun fa L R => by kernel_rfl) (fun fa L R h0 h1 h2 => ?_)
  · refine each_cons rfl (by kernel_rfl) (each_cons rfl (evE_prim rfl rfl (each_cons rfl (by kernel_rfl) rfl) rfl rfl (len_D hll)) rfl)
  · refine ⟨put (put (bindPs (freeG (put (bindPs [] ["digits", "n"] [.lst (ds.map D.int), .int n]) "inner" (.ref fa)) (stScope dD2n).names) ["L", "R"] [.int L, .int R]) "mid" (.int ((L + R).fdiv (2 ^ 1)))) "shift" (.int (((L + R).fdiv (2 ^ 1) - L) * n)), ?_, by kernel_rfl, by kernel_rfl, by kernel_rfl, by kernel_rfl⟩
    rw [evSs_cons (evS_asg (d := .int ((L + R).fdiv (2 ^ 1))) rfl rfl rfl (by kernel_rfl)), evSs_cons (evS_asg (d := .int (((L + R).fdiv (2 ^ 1) - L) * n)) rfl rfl rfl (evE_bin (a := .int ((L + R).fdiv (2 ^ 1) - L)) (b := .int n) (by kernel_rfl) (by kernel_rfl) (mul_D (Nat.le_trans (intBits_nat (k := 15) (by omega)) (by decide)))))]
    rfl

/-- a number's digits -/
noncomputable def ndig (x n : Nat) : Nat := (Builtin.Int.intBits (x : Int) + n - 1) / n
theorem ndig_ok {x n : Nat} (hn : 0 < n) : x < 2 ^ (n * ndig x n) := by
  refine Nat.lt_of_lt_of_le (lt_pow_bits x) (Nat.pow_le_pow_right (by decide) ?_)
  unfold ndig
  generalize Builtin.Int.intBits (x : Int) = b
  have h1 := Nat.div_add_mod (b + n - 1) n
  have h2 := Nat.mod_lt (b + n - 1) hn
  omega
theorem i2d_nat (nv : NvOk B L (nat0 C p1 p2)) {a c P : Addr} {fd : FuncData} (fc0 : FcAt B B.h0 a (stBody dI2d) (stScope dI2d) [] fd) (hbind : ∀ v w, bindArgs fd ⟨[v, w], []⟩ = pure [(Str.ofString "a", v), (Str.ofString "n", w)])
    (hcode : fd.code = .ref c) (Ch : CodeHd B.h0 c P) (hP : P ∈ B.tb) (hdn : B.dn P = (stPos dI2i, Str.ofString "_int2digits.<locals>.inner")) (hq : fd.qualname = "_int2digits") (hbm : B.h0.BuiltinsAt B.mg P)
    {x n : Nat} (h0n : 0 < n) (hN : ndig x n ≤ 64) (hn : n ≤ 2 ^ 14) : OkCall B (L + 70) (.ref a) [.int x, .int n] (.lst ((digs n (ndig x n) x).map D.int)) := by
  have hn9 : (n : Int).natAbs < 2 ^ 9000 := nat9 hn
  refine i2d_ok (ax := "a") (nx := "n") (an := "a_digits") (xx := "x") (Lx := "L") (Rx := "R") (nm := "inner") (q := 12) (kk := 9) (mm := 10) nv fc0 rfl rfl rfl rfl rfl hbind hcode Ch hP hdn (by rw [hq]; rfl) hbm rfl rfl rfl (fun _ => rfl) rfl rfl
    (ndig_ok h0n) hN hn (by kernel_rfl) ?_ (fun l fa => by kernel_rfl) (fun l fa zs hzs => ?_) (fun l fa => by kernel_rfl) (by decide)
    rfl rfl rfl rfl (fun doc pm c' ctv cl u v w => by kernel_rfl) rfl rfl rfl rfl (fun l fa x' L R => by kernel_rfl) (fun l fa x' L R => by kernel_rfl) (fun l fa x' L R => by kernel_rfl) (fun l fa x' L R => by kernel_rfl) (fun l fa x' L R h0 h1 h2 h3 h4 => ?_)
  · have e : (((Builtin.Int.intBits (x : Int) : Nat) : Int) + (n : Int) - 1).fdiv (n : Int) = ((ndig x n : Nat) : Int) := by
      rw [Int.fdiv_eq_ediv_of_nonneg _ (Int.natCast_nonneg _)]
      unfold ndig
      rw [show ((Builtin.Int.intBits (x : Int) : Nat) : Int) + (n : Int) - 1 = ((Builtin.Int.intBits (x : Int) + n - 1 : Nat) : Int) by omega, Int.natCast_ediv]
    rw [← e]
    exact evE_bin (a := .int (((Builtin.Int.intBits (x : Int) : Nat) : Int) + (n : Int) - 1)) (b := .int n) (by kernel_rfl) (by kernel_rfl) (fdv_D (by omega) hn9)
  · exact each_cons rfl (by kernel_rfl) (each_cons rfl (by kernel_rfl) (each_cons rfl (evE_prim rfl rfl (each_cons rfl (by kernel_rfl) rfl) rfl rfl (len_D (by omega))) rfl))
  · refine ⟨put (put (put (put (bindPs (freeG (put (put (bindPs [] ["a", "n"] [.int x, .int n]) "a_digits" (.ref l)) "inner" (.ref fa)) (stScope dI2i).names) ["x", "L", "R"] [.int x', .int L, .int R]) "mid" (.int ((L + R).fdiv (2 ^ 1)))) "shift" (.int (((L + R).fdiv (2 ^ 1) - L) * n)))
      "upper" (.int (x'.fdiv (2 ^ (((L + R).fdiv (2 ^ 1) - L) * n).toNat)))) "lower" (.int (Builtin.bitXor x' (x'.fdiv (2 ^ (((L + R).fdiv (2 ^ 1) - L) * n).toNat) * 2 ^ (((L + R).fdiv (2 ^ 1) - L) * n).toNat))), ?_, by kernel_rfl, by kernel_rfl, by kernel_rfl⟩
    rw [evSs_cons (evS_asg (d := .int ((L + R).fdiv (2 ^ 1))) rfl rfl rfl (by kernel_rfl)), evSs_cons (evS_asg (d := .int (((L + R).fdiv (2 ^ 1) - L) * n)) rfl rfl rfl (evE_bin (a := .int ((L + R).fdiv (2 ^ 1) - L)) (b := .int n) (by kernel_rfl) (by kernel_rfl) (mul_D (Nat.le_trans (intBits_nat (k := 15) (by omega)) (by decide))))),
      evSs_cons (evS_asg (d := .int (x'.fdiv (2 ^ (((L + R).fdiv (2 ^ 1) - L) * n).toNat))) rfl rfl rfl (evE_bin (a := .int x') (b := .int (((L + R).fdiv (2 ^ 1) - L) * n)) (by kernel_rfl) (by kernel_rfl) (shr_D h3))),
      evSs_cons (evS_asg (d := .int (Builtin.bitXor x' (x'.fdiv (2 ^ (((L + R).fdiv (2 ^ 1) - L) * n).toNat) * 2 ^ (((L + R).fdiv (2 ^ 1) - L) * n).toNat))) rfl rfl rfl (evE_bin (a := .int x') (b := .int (x'.fdiv (2 ^ (((L + R).fdiv (2 ^ 1) - L) * n).toNat) * 2 ^ (((L + R).fdiv (2 ^ 1) - L) * n).toNat)) (by kernel_rfl)
        (evE_bin (a := .int (x'.fdiv (2 ^ (((L + R).fdiv (2 ^ 1) - L) * n).toNat))) (b := .int (((L + R).fdiv (2 ^ 1) - L) * n)) (by kernel_rfl) (by kernel_rfl) (shl_D h3 h4)) rfl))]
    rfl
end
end Mine

end
section
open PySem PySem.W PyProof.Rows
set_option Elab.async false
set_option maxRecDepth 100000
namespace Mine

noncomputable def hB : List Stmt := clsOf "Headers" Pb
noncomputable def dConv : Stmt := defOf "_convert_string_type" hB
noncomputable def dInit : Stmt := defOf "__init__" hB
noncomputable def dGetAll : Stmt := defOf "get_all" hB

noncomputable def conv2 (C : Nat) (o : D) (ds : List D) (kd : D) : Option D := match hdrOf C o with
  | some _ => match sole strOf1 ds with
    | some x => match boolOf1 kd with
      | some _ => match Safe x with
        | true => some (.str x)
        | false => none
      | none => none
    | none => none
  | none => none
noncomputable def convK (C : Nat) : Str → D → List D → Str → D → Option D := fun m o ds kn kd => match strEq m "_convert_string_type" && strEq kn "name" with
  | true => conv2 C o ds kd
  | false => none
theorem conv2_inv {C : Nat} {o kd r : D} {ds : List D} (h : conv2 C o ds kd = some r) : ∃ xs x b, o = .hdr C xs ∧ ds = [.str x] ∧ kd = .bool b ∧ Safe x = true ∧ D.str x = r := by
  unfold conv2 at h
  split at h
  · rename_i h1
    split at h
    · rename_i h2
      split at h
      · rename_i h3
        split at h
        · rename_i hs
          obtain ⟨d, e, h2⟩ := sole_eq h2
          exact ⟨_, _, _, hdrOf_eq h1, e.trans (by rw [strOf1_eq h2]), boolOf1_eq h3, hs, Option.some.inj h⟩
        · exact nsd h
      · exact nsd h
    · exact nsd h
  · exact nsd h

theorem natM_search {p1 p2 p : Nat} {x : Str} (hp : p = p1 ∨ p = p2) (hs : Safe x = true) : natM p1 p2 "search" (.ref p) [.str x] = some .none := by
  have h : (Nat.beq p p1 || Nat.beq p p2) = true := by
    rw [Bool.or_eq_true]
    rcases hp with e | e
    · exact .inl (by rw [e]; exact Nat.beq_refl _)
    · exact .inr (by rw [e]; exact Nat.beq_refl _)
  show (match (Nat.beq p p1 || Nat.beq p p2) && Safe x with
    | true => some D.none
    | false => none) = _
  rw [h, hs]; rfl

section
variable {C p1 p2 : Nat}
theorem conv_run (d : D) {x : Str} (b : Bool) (hs : Safe x = true) :
    ∃ Γ, evSs (evS noHk (evE (nat0 C p1 p2) 12) 9 12) (stScope dConv).names (stBody dConv) (bindPs [] ["self", "value", "name"] [d, .str x, .bool b]) [] = some (.ret (.str x), Γ, []) := by
  cases b
  · refine ⟨put (bindPs [] ["self", "value", "name"] [d, .str x, .bool false]) "regex" (.ref p2), ?_⟩
    refine evSs_ret ?_
    refine (evS_IfH (c := true) rfl (testD_of (d := .bool true) (by kernel_rfl) rfl)).trans ?_
    refine (evSs_cons (evS_asg (d := .ref p2) rfl rfl rfl (by kernel_rfl))).trans ?_
    refine (evSs_cons (Γ1 := put (bindPs [] ["self", "value", "name"] [d, .str x, .bool false]) "regex" (.ref p2)) (Ω1 := []) ((evS_IfH (c := false) rfl (testD_of (d := .none) (evE_methX rfl rfl rfl rfl (d := .ref p2) (ds := [.str x]) (by kernel_rfl) (by kernel_rfl) (natM_search (.inr rfl) hs)) rfl)).trans rfl)).trans ?_
    exact evSs_ret (evS_RetH rfl (by kernel_rfl))
  · refine ⟨put (bindPs [] ["self", "value", "name"] [d, .str x, .bool true]) "regex" (.ref p1), ?_⟩
    refine evSs_ret ?_
    refine (evS_IfH (c := true) rfl (testD_of (d := .bool true) (by kernel_rfl) rfl)).trans ?_
    refine (evSs_cons (evS_asg (d := .ref p1) rfl rfl rfl (by kernel_rfl))).trans ?_
    refine (evSs_cons (Γ1 := put (bindPs [] ["self", "value", "name"] [d, .str x, .bool true]) "regex" (.ref p1)) (Ω1 := []) ((evS_IfH (c := false) rfl (testD_of (d := .none) (evE_methX rfl rfl rfl rfl (d := .ref p1) (ds := [.str x]) (by kernel_rfl) (by kernel_rfl) (natM_search (.inl rfl) hs)) rfl)).trans rfl)).trans ?_
    exact evSs_ret (evS_RetH rfl (by kernel_rfl))

variable {B : Bs} {K : Frag} {L : Nat}
/-- what the class's own functions are -/
structure ClsAt (B : Bs) (K : Frag) (C : Nat) (x : Str) (s : Stmt) (fd : FuncData) : Prop where
  ok : methOk K C x = true
  fc : FcAt B B.h0 (methA K C x) (stBody s) (stScope s) [] fd

noncomputable def X1 (C p1 p2 : Nat) : Nv := orMK (nat0 C p1 p2) (convK C)
theorem X1_ok (n0 : Nat0 B K C p1 p2) {fd : FuncData} (ca : ClsAt B K C "_convert_string_type" dConv fd) (hbind : ∀ o v b, bindArgs fd ⟨[o, v], [(Str.ofString "name", b)]⟩ = pure [(Str.ofString "self", o), (Str.ofString "value", v), (Str.ofString "name", b)]) : NvOk B (L + 1) (X1 C p1 p2) := by
  have nv0 : NvOk B L (nat0 C p1 p2) := nat0_ok n0
  refine orMK_ok (nv0.more (Nat.le_succ _)) fun m d ds kn kd r h => ?_
  unfold convK at h
  split at h
  · rename_i hm
    rw [Bool.and_eq_true] at hm
    obtain ⟨xs, x, b, rfl, rfl, rfl, hs, rfl⟩ := conv2_inv h
    obtain rfl := strEq_iff.mp hm.1
    obtain rfl := strEq_iff.mp hm.2
    obtain ⟨o, ho, hd⟩ := ca.fc.ob
    obtain ⟨h1, h2⟩ := methOk_of ca.ok
    refine ⟨_, o, fd, fun A G s E Q ov pl st rd hq => hdr_method n0.kb n0.hk h1 h2 (by decide) st rd hq, ho, ca.fc.nt, hd, fun A G s vs kv E Q rm st r rk hQ => ?_⟩
    obtain ⟨v, w, rfl, rv, rw'⟩ := r.two
    refine rk.boolK ?_
    obtain ⟨Γ, hrun⟩ := conv_run (C := C) (p1 := p1) (p2 := p2) (.hdr C xs) b hs
    exact run_fb (binds := [(Str.ofString "self", v), (Str.ofString "value", w), (Str.ofString "name", .bool b)]) (ds := [.hdr C xs, .str x, .bool b]) (ca.fc.st st) rfl rfl (fun A' E' Qb hq => by rw [hbind]; exact @wpAny_pure _ _ _ _ _ _ _ hq) (fun p hp => by
      rcases List.mem_cons.mp hp with e | hp
      · rw [e]; rfl
      rcases List.mem_cons.mp hp with e | hp
      · rw [e]; rfl
      rw [List.mem_singleton.mp hp]; rfl) st (.cons rv (.cons rw' (.cons (.bool b) .nil))) rm (evS_ok nv0 noHk_ok 12 9 12) hrun hQ
  · exact nsd h
end
end Mine

end
section
open PySem PySem.W PyProof.Rows
set_option Elab.async false
set_option maxRecDepth 100000
namespace Mine

noncomputable def pairOf : D → Option (Str × Str)
  | .tup xs => match xs with
    | [x, y] => match strOf1 x, strOf1 y with
      | some a, some b => some (a, b)
      | _, _ => none
    | _ => none
  | _ => none
theorem pairOf_eq {d : D} {a b : Str} (h : pairOf d = some (a, b)) : d = .tup [.str a, .str b] := by
  cases d <;> first | exact nsd h | skip
  case tup xs =>
    unfold pairOf at h
    dsimp only at h
    split at h
    · split at h
      · rename_i h1 h2
        rw [strOf1_eq h1, strOf1_eq h2]
        have e := Option.some.inj h
        rw [(Prod.mk.inj e).1, (Prod.mk.inj e).2]
      · exact nsd h
    · exact nsd h
noncomputable def pairsOf : List D → Option (List (Str × Str))
  | [] => some []
  | x :: r => match pairOf x with
    | some p => match pairsOf r with
      | some l => some (p :: l)
      | none => none
    | none => none
noncomputable def pD (p : Str × Str) : D := .tup [.str p.1, .str p.2]
theorem pairsOf_map : ∀ (ps : List (Str × Str)), pairsOf (ps.map pD) = some ps
  | [] => rfl
  | p :: ps => by
    show (match pairsOf (ps.map pD) with
    | some l => some ((p.1, p.2) :: l)
    | none => none) = _
    rw [pairsOf_map ps]
theorem pairsOf_eq : ∀ {xs : List D} {ps : List (Str × Str)}, pairsOf xs = some ps → xs = ps.map pD
  | [], ps, h => Option.some.inj h ▸ rfl
  | x :: xs, ps, h => by
    unfold pairsOf at h
    split at h
    · rename_i p hp
      split at h
      · rename_i l hl
        rw [← Option.some.inj h, pairsOf_eq hl, pairOf_eq (a := p.1) (b := p.2) hp]; rfl
      · exact nsd h
    · exact nsd h
noncomputable def low (x : Str) : Bool := Builtin.Str.tooLong (Txt.lower x).length
noncomputable def getL (ps : List (Str × Str)) (name : Str) : List D := (ps.filter fun p => Txt.lower p.1 == Txt.lower name).map fun p => D.str p.2
noncomputable def getM (C : Nat) : Str → D → List D → Option D := fun m o ds => match strEq m "get_all" with
  | true => match hdrOf C o with
    | some xs => match sole strOf1 ds with
      | some name => match pairsOf xs with
        | some ps => match Safe (Txt.lower name) && !low name && ps.all (fun p => !low p.1) && Nat.ble ps.length 1000 with
          | true => some (.lst (getL ps name))
          | false => none
        | none => none
      | none => none
    | none => none
  | false => none

section
variable {C p1 p2 : Nat}
theorem convK_ok {xs : List D} {x : Str} {b : Bool} (hs : Safe x = true) : (X1 C p1 p2).MK "_convert_string_type" (.hdr C xs) [.str x] "name" (.bool b) = some (.str x) := by
  show conv2 C (.hdr C xs) [.str x] (.bool b) = _
  unfold conv2
  rw [hdrOf_self]
  show (match Safe x with | true => some (D.str x) | false => none) = _
  rw [hs]
theorem natA_ok {xs : List D} : (X1 C p1 p2).A "_headers" (.hdr C xs) = some (.lst xs) := by
  show natA C "_headers" (.hdr C xs) = _
  unfold natA
  rw [hdrOf_self]; rfl
theorem low_D {x : Str} (h : low x = false) : methD .lower (.str x) [] = some (.str (Txt.lower x)) := by
  show (match Builtin.Str.tooLong (Txt.lower x).length with
    | true => none
    | false => some (D.str (Txt.lower x))) = _
  have : Builtin.Str.tooLong (Txt.lower x).length = false := h
  rw [this]

theorem getAll_run {ps : List (Str × Str)} {name : Str} (h1 : Safe (Txt.lower name) = true) (h2 : low name = false) (h3 : ∀ p ∈ ps, low p.1 = false) (h4 : ps.length ≤ 1000) :
    ∃ Γ, evSs (evS noHk (evE (X1 C p1 p2) 12) 9 12) (stScope dGetAll).names (stBody dGetAll) (bindPs [] ["self", "name"] [.hdr C (ps.map pD), .str name]) [] = some (.ret (.lst (getL ps name)), Γ, []) := by
  refine ⟨put (bindPs [] ["self", "name"] [.hdr C (ps.map pD), .str name]) "name" (.str (Txt.lower name)), ?_⟩
  refine (evSs_cons (evS_asg (d := .str (Txt.lower name)) rfl rfl rfl (evE_methK rfl rfl rfl rfl (d := .hdr C (ps.map pD)) (ds := [.str (Txt.lower name)]) (kd := .bool true) (by kernel_rfl) (each_cons rfl (evE_meth (mn := "lower") rfl rfl rfl (d := .str name) (ds := []) (by kernel_rfl) rfl (low_D h2)) rfl) (by kernel_rfl) (convK_ok h1)))).trans ?_
  refine evSs_ret (evS_RetH rfl ?_)
  refine evE_comp (d := .lst (ps.map pD)) (xs := ps.map pD) rfl rfl (by kernel_rfl) (evE_attr (d := .hdr C (ps.map pD)) (by kernel_rfl) natA_ok) rfl ?_ ?_
  · refine compL_map (fun p hp => ?_)
    refine ⟨put (freeG (put (bindPs [] ["self", "name"] [.hdr C (ps.map pD), .str name]) "name" (.str (Txt.lower name))) [("kv", NameKind.local), ("name", NameKind.free)]) "kv" (pD p), ?_, ?_, ?_⟩
    · kernel_rfl
    · refine testsD_one ?_
      refine evE_cmp1 (a := .str (Txt.lower p.1)) (b := .str (Txt.lower name)) rfl (evE_meth (mn := "lower") rfl rfl rfl (d := .str p.1) (ds := []) (by kernel_rfl) rfl (low_D (h3 p hp))) (by kernel_rfl) ?_
      kernel_rfl
    · intro _
      exact compI_nil (by kernel_rfl)
  · unfold getL
    rw [List.length_map]
    exact Nat.ble_eq_true_of_le (Nat.le_trans (List.length_filter_le _ _) h4)
end
end Mine

end
section
open PySem PySem.W PyProof.Rows
set_option Elab.async false
set_option maxRecDepth 100000
namespace Mine

theorem strEq_self (x : Str) : strEq x x = true := strEq_iff.mpr rfl
section
variable {B : Bs} {K : Frag} {L : Nat} {C p1 p2 : Nat}
noncomputable def X2 (C p1 p2 : Nat) : Nv := orM (X1 C p1 p2) (getM C)
theorem X2_ok (nv1 : NvOk B L (X1 C p1 p2)) (kb : KB B K) (hk : HdK K C) {fd : FuncData} (ca : ClsAt B K C "get_all" dGetAll fd) (hbind : ∀ o v, bindArgs fd ⟨[o, v], []⟩ = pure [(Str.ofString "self", o), (Str.ofString "name", v)]) : NvOk B (L + 1) (X2 C p1 p2) := by
  refine orM_ok (nv1.more (Nat.le_succ _)) fun m d ds r h => ?_
  unfold getM at h
  split at h
  · rename_i hm
    split at h
    · rename_i xs hx
      split at h
      · rename_i name hn
        split at h
        · rename_i ps hps
          split at h
          · rename_i hg
            obtain rfl := strEq_iff.mp hm
            obtain rfl := hdrOf_eq hx
            obtain ⟨dn, rfl, hn⟩ := sole_eq hn
            obtain rfl := strOf1_eq hn
            have hr := (Option.some.inj h).symm
            subst hr
            simp only [Bool.and_eq_true, Bool.not_eq_true', List.all_eq_true] at hg
            obtain ⟨⟨⟨g1, g2⟩, g3⟩, g4⟩ := hg
            obtain ⟨h1, h2⟩ := methOk_of ca.ok
            refine ⟨_, fun A G s E Q ov pl st rd hq => hdr_method kb hk h1 h2 (by decide) st rd hq, ca.fc.keep0, fun A G s vs E Q rm st r hQ => ?_⟩
            obtain ⟨v, w, rfl, rv, rw'⟩ := r.two
            have hxs := pairsOf_eq hps
            obtain ⟨Γ, hrun⟩ := getAll_run (C := C) (p1 := p1) (p2 := p2) g1 g2 g3 (Nat.le_of_ble_eq_true g4)
            rw [← hxs] at hrun
            exact run_fb (binds := [(Str.ofString "self", v), (Str.ofString "name", w)]) (ds := [.hdr C xs, .str name]) (ca.fc.st st) rfl rfl (fun A' E' Qb hq => by rw [hbind]; exact @wpAny_pure _ _ _ _ _ _ _ hq) (fun p hp => by
              rcases List.mem_cons.mp hp with e | hp
              · rw [e]; rfl
              rw [List.mem_singleton.mp hp]; rfl) st (.cons rv (.cons rw' .nil)) rm (evS_ok nv1 noHk_ok 12 9 12) hrun hQ
          · exact nsd h
        · exact nsd h
      · exact nsd h
    · exact nsd h
  · exact nsd h

/-- a new table -/
noncomputable def hdrN (C : Nat) : Str → List D → Option D := fun x ds => match strEq x "Headers", ds with
  | true, [.lst xs] => match pairsOf xs with
    | some ps => match ps.all fun p => Safe p.1 && Safe p.2 with
      | true => some (.hdr C xs)
      | false => none
    | none => none
  | _, _ => none
noncomputable def ini4 : Stmt := (stBody dInit).getD 3 (.Pass default)
noncomputable def forT : Stmt → Expr
  | .For t _ _ _ _ => t
  | _ => .Constant .none 0 default
noncomputable def for4 : Stmt := (ifB ini4).getD 0 (.Pass default)
noncomputable def tgt4 : Expr := forT for4
noncomputable def bdy4 : List Stmt := ifB for4
noncomputable def iniG (xs : List D) (C x l : Nat) : Gm := put (put (put (bindPs [] ["self", "headers"] [.ref x, .ref l]) "headers" (.ref l)) "headers" (.lst xs)) "self" (.hdr C xs)
theorem ini_run {ps : List (Str × Str)} (hs : ∀ p ∈ ps, Safe p.1 = true ∧ Safe p.2 = true) (x l : Nat) :
    ∃ Γ4, evSs (evS noHk (evE (X2 C p1 p2) 12) 9 (10 + 2)) (stScope dInit).names [ini4] (iniG (ps.map pD) C x l) [] = some (.nxt, Γ4, []) := by
  have key := forD_inv (sc := (stScope dInit).names) (t := tgt4) (body := evSs (evS noHk (evE (X2 C p1 p2) 12) 9 10) (stScope dInit).names bdy4) (f := pD)
    (fun _ Γ Ω => Ω = [] ∧ (Γ = iniG (ps.map pD) C x l ∨ ∃ p : Str × Str, Γ = put (put (iniG (ps.map pD) C x l) "k" (.str p.1)) "v" (.str p.2))) ps [] (iniG (ps.map pD) C x l) [] ⟨rfl, .inl rfl⟩ ?_
  · obtain ⟨Γ2, Ω2, h1, rfl, h2⟩ := key
    refine ⟨Γ2, ?_⟩
    refine (evSs_cons (Γ1 := Γ2) (Ω1 := []) ((evS_IfH (c := true) rfl (testD_of (d := .bool true) (by kernel_rfl) rfl)).trans ?_)).trans rfl
    refine (evSs_cons (Γ1 := Γ2) (Ω1 := []) ((evS_ForH (d := .lst (ps.map pD)) (xs := ps.map pD) rfl rfl (by kernel_rfl) rfl).trans h1)).trans rfl
  · rintro done p Γ Ω - ⟨rfl, hΓ⟩ hp
    obtain ⟨s1, s2⟩ := hs p hp
    have hΓ' : ∃ Γ1, bindT (stScope dInit).names tgt4 (pD p) Γ = some Γ1 ∧ Γ1 = put (put (iniG (ps.map pD) C x l) "k" (.str p.1)) "v" (.str p.2) := by
      rcases hΓ with rfl | ⟨q, rfl⟩
      · exact ⟨_, by kernel_rfl, rfl⟩
      · exact ⟨put (put (iniG (ps.map pD) C x l) "k" (.str p.1)) "v" (.str p.2), by kernel_rfl, rfl⟩
    obtain ⟨Γ1, hb, rfl⟩ := hΓ'
    refine ⟨_, put (put (iniG (ps.map pD) C x l) "k" (.str p.1)) "v" (.str p.2), [], hb, ?_, rfl, .inr ⟨p, rfl⟩⟩
    refine (evSs_cons (evS_dropK (d := .str p.1) ?_ ?_ ?_)).trans ((evSs_cons (evS_dropK (d := .str p.2) ?_ ?_ ?_)).trans rfl)
    · rfl
    · exact evE_methK rfl rfl rfl rfl (d := .hdr C (ps.map pD)) (ds := [.str p.1]) (kd := .bool true) (by kernel_rfl) (by kernel_rfl) (by kernel_rfl) (convK_ok (C := C) (p1 := p1) (p2 := p2) (xs := ps.map pD) (b := true) s1)
    · rfl
    · rfl
    · exact evE_methK rfl rfl rfl rfl (d := .hdr C (ps.map pD)) (ds := [.str p.2]) (kd := .bool false) (by kernel_rfl) (by kernel_rfl) (by kernel_rfl) (convK_ok (C := C) (p1 := p1) (p2 := p2) (xs := ps.map pD) (b := false) s2)
    · rfl

theorem keep_cls (kb : KB B K) (hk : HdK K C) : KeepOk B (.ref C) := fun A G s E Q st h => by
  have mk := makes_of (M := B.M) (kb.st st) hk.mks
  obtain ⟨oc, od, cd, sl, hC, _⟩ := mk.obj
  unfold keeperOf
  refine WP.bind ⟨@wpAny_load _ _ _ _ _ _ _ hC ?_⟩
  dsimp only
  refine WP.bind ⟨mk.call.at ?_⟩
  exact WP.pure (h _)

noncomputable def X3 (C p1 p2 : Nat) : Nv := orN (X2 C p1 p2) (hdrN C)
theorem X3_ok (nv2 : NvOk B L (X2 C p1 p2)) (kb : KB B K) (hk : HdK K C) (hmg : B.mg "Headers" = some (.ref C)) {fd : FuncData} (ca : ClsAt B K C "__init__" dInit fd) (hbind : ∀ u v (s : Shared), K.In s.heap → BindsTo s fd ⟨[u, v], []⟩ [(Str.ofString "self", u), (Str.ofString "headers", v)]) : NvOk B (L + 2) (X3 C p1 p2) := by
  refine orN_ok (nv2.more (by omega)) fun m ds r h => ?_
  unfold hdrN at h
  split at h
  · rename_i xs hm
    split at h
    · rename_i ps hps
      split at h
      · rename_i hg
        cases h
        have hm := strEq_iff.mp hm; subst hm
        have hs : ∀ p ∈ ps, Safe p.1 = true ∧ Safe p.2 = true := fun p hp => by
          have := List.all_eq_true.mp hg p hp
          simpa only [Bool.and_eq_true] using this
        have hxs := pairsOf_eq hps
        obtain ⟨h1, h2⟩ := methOk_of ca.ok
        refine ⟨_, hmg, keep_cls kb hk, fun A G s vs E Q rm st r hQ => ?_⟩
        obtain ⟨v, rfl, rv⟩ := r.one
        refine rv.lstK fun l items n hlO hl hd => ?_
        subst hxs
        refine hdr_new (sn := "self") (hn := "headers") (q := 12) (kk := 9) (mm := 10) (Γ1 := fun x l => put (bindPs [] ["self", "headers"] [.ref x, .ref l]) "headers" (.ref l)) nv2 kb hk ca.fc rfl rfl rfl rfl (by decide) hbind h1 h2 rfl (fun x l => by kernel_rfl) (fun x l => by kernel_rfl) (fun x l => by kernel_rfl) (fun x l => by kernel_rfl) (fun x l => by kernel_rfl) (fun x l => by kernel_rfl) (fun x l => ini_run hs x l) rm st hlO hl hd fun a dx G' s' ke ha hdx _ _ hoa hne hns hl' hd' => ?_
        have hO : ∀ b, s.heap.objs.size ≤ b → b ∉ G'.O := fun b hb m => Nat.lt_irrefl _ (Nat.lt_of_lt_of_le (nlt (st.lt b (ke.o ▸ m))) hb)
        exact hQ _ _ _ ke (.hdr (hO a ha) (hO dx hdx) (fun m => hlO (ke.o ▸ m)) hoa hne hns hl' hd')
      · first | exact nsd h | exact nft h | exact ntf h | cases h
    · first | exact nsd h | exact nft h | exact ntf h | cases h
  · first | exact nsd h | exact nft h | exact ntf h | cases h
end
end Mine

end
section
open PySem PySem.W PyProof.Rows
set_option Elab.async false
set_option maxRecDepth 100000
namespace Mine

noncomputable def atN (x : Str) (f : List D → Option D) : Str → List D → Option D := fun y ds => match strEq y x with
  | true => f ds
  | false => none
theorem atN_self (x : Str) (f : List D → Option D) (ds : List D) : atN x f x ds = f ds := by unfold atN; rw [strEq_self]
theorem orN_old {X : Nv} {f : Str → List D → Option D} {x : Str} {ds : List D} {d : D} (h : X.N x ds = some d) : (orN X f).N x ds = some d := by simp only [orN, h]
theorem orN_new {X : Nv} {f : List D → Option D} {x : Str} {ds : List D} {d : D} (h0 : X.N x ds = none) (h : f ds = some d) : (orN X (atN x f)).N x ds = some d := by simp only [orN, h0, atN_self, h]
noncomputable def GfAt (B : Bs) (x : Str) (F : Fn) : Prop := ∃ a, B.mg x = some (.ref a) ∧ FnAt B a F
theorem runF_ret {rec : Sv} {F : Fn} {ds : List D} {d : D} {Γ : Gm} {Ω : Om} (hl : (ds.length == F.ps.length) = true) (h : evSs rec F.scope.names F.body (bindPs [] F.ps ds) [] = some (.ret d, Γ, Ω)) : runF rec F ds = some d := by
  unfold runF
  rw [hl]; dsimp only; rw [h]

section
variable {B : Bs} {L : Nat}
theorem orC_ok {X : Nv} {x : Str} {f : List D → Option D} (nv : NvOk B L X) (h : ∀ ds d, f ds = some d → NvN B L x ds d) : NvOk B L (orN X (atN x f)) :=
  orN_ok nv fun y ds d e => by
    unfold atN at e
    split at e
    · rename_i hy
      rw [strEq_iff.mp hy]; exact h ds d e
    · cases e
theorem orF_ok {X : Nv} {H : Hk} {x : Str} {F : Fn} {f : List D → Option D} {m k n : Nat} (nv : NvOk B L X) (hk : OkS B L H.S) (hf : GfAt B x F) (h : ∀ ds d, f ds = some d → runF (evS H (evE X m) k n) F ds = some d) : NvOk B (L + 1) (orN X (atN x f)) := by
  obtain ⟨a, hmg, fa⟩ := hf
  exact orC_ok (nv.more (Nat.le_succ _)) fun ds d e => ⟨_, hmg, fa.keep, fn_ok fa (evS_ok nv hk m k n) (h ds d e)⟩

/-- digits -/
noncomputable def i2dN : List D → Option D := fun ds => match two intOf1 intOf1 ds with
  | some p => match decide (0 ≤ p.1) && decide (0 < p.2) && decide (p.2 ≤ 16384) && Nat.ble (ndig p.1.toNat p.2.toNat) 64 with
    | true => some (.lst ((digs p.2.toNat (ndig p.1.toNat p.2.toNat) p.1.toNat).map D.int))
    | false => none
  | none => none
noncomputable def intsB (n : Nat) : List D → Option (List Int)
  | [] => some []
  | x :: r => match intOf1 x with
    | some i => match decide (0 ≤ i) && decide (i < 2 ^ n) with
      | true => match intsB n r with
        | some l => some (i :: l)
        | none => none
      | false => none
    | none => none
theorem intsB_map {n : Nat} : ∀ {l : List Int}, (∀ d ∈ l, 0 ≤ d ∧ d < 2 ^ n) → intsB n (l.map D.int) = some l
  | [], _ => rfl
  | i :: l, h => by
    show (match decide (0 ≤ i) && decide (i < 2 ^ n) with
      | true => match intsB n (l.map D.int) with
        | some l => some (i :: l)
        | none => none
      | false => none) = _
    rw [intsB_map fun d hd => h d (List.mem_cons_of_mem _ hd), decide_eq_true (h i List.mem_cons_self).1, decide_eq_true (h i List.mem_cons_self).2]; rfl
theorem intsB_eq {n : Nat} : ∀ {xs : List D} {l : List Int}, intsB n xs = some l → xs = l.map D.int ∧ ∀ d ∈ l, 0 ≤ d ∧ d < 2 ^ n
  | [], l, h => Option.some.inj h ▸ ⟨rfl, fun _ h => nomatch h⟩
  | x :: xs, l, h => by
    unfold intsB at h
    split at h
    · rename_i i hi
      split at h
      · rename_i hc
        split at h
        · rename_i l' h3
          obtain ⟨e1, e2⟩ := intsB_eq h3
          rw [← Option.some.inj h, intOf1_eq hi, e1]
          rw [Bool.and_eq_true] at hc
          exact ⟨rfl, fun d hd => (List.mem_cons.mp hd).elim (fun e => e ▸ ⟨of_decide_eq_true hc.1, of_decide_eq_true hc.2⟩) (e2 d)⟩
        · exact nsd h
      · exact nsd h
    · exact nsd h
noncomputable def d2iN : List D → Option D := fun ds => match two lstOf1 intOf1 ds with
  | some p => match decide (0 ≤ p.2) && decide (p.2 ≤ 16384) with
    | true => match intsB p.2.toNat p.1 with
      | some l => match Nat.ble l.length 64 with
        | true => some (.int (val p.2.toNat l))
        | false => none
      | none => none
    | false => none
  | none => none

variable {K : Frag} {C p1 p2 : Nat}
noncomputable def X4 (C p1 p2 : Nat) : Nv := orN (X3 C p1 p2) (atN "_int2digits" i2dN)
noncomputable def X5 (C p1 p2 : Nat) : Nv := orN (X4 C p1 p2) (atN "_digits2int" d2iN)
/-- one of the two functions with a nested one -/
structure NestAt (B : Bs) (x : Str) (s i : Stmt) (qn : Str) (a c P : Addr) (fd : FuncData) : Prop where
  mg : B.mg x = some (.ref a)
  fc : FcAt B B.h0 a (stBody s) (stScope s) [] fd
  code : fd.code = .ref c
  ch : CodeHd B.h0 c P
  p : P ∈ B.tb
  dn : B.dn P = (stPos i, qn)
  q : fd.qualname = x
  bm : B.h0.BuiltinsAt B.mg P
theorem X4_ok (nv0 : NvOk B L (nat0 C p1 p2)) (nv3 : NvOk B (L + 70) (X3 C p1 p2)) {a c P : Addr} {fd : FuncData} (na : NestAt B "_int2digits" dI2d dI2i "_int2digits.<locals>.inner" a c P fd) (hbind : ∀ v w, bindArgs fd ⟨[v, w], []⟩ = pure [(Str.ofString "a", v), (Str.ofString "n", w)]) : NvOk B (L + 70) (X4 C p1 p2) := by
  refine orC_ok nv3 fun ds d h => ⟨_, na.mg, na.fc.keep0, ?_⟩
  unfold i2dN at h
  split at h
  · rename_i p hp
    obtain ⟨a, b, rfl, e1, e2⟩ := two_eq hp
    split at h
    · rename_i hc
      simp only [Bool.and_eq_true] at hc
      obtain ⟨⟨⟨h1, h2⟩, h3⟩, h4⟩ := hc
      have h1 := of_decide_eq_true h1
      have h2 := of_decide_eq_true h2
      have h3 := of_decide_eq_true h3
      have ex : ((p.1.toNat : Nat) : Int) = p.1 := Int.toNat_of_nonneg h1
      have en : ((p.2.toNat : Nat) : Int) = p.2 := Int.toNat_of_nonneg (Int.le_of_lt h2)
      have := i2d_nat nv0 na.fc hbind na.code na.ch na.p na.dn na.q na.bm (x := p.1.toNat) (n := p.2.toNat) (by omega) (Nat.le_of_ble_eq_true h4) (by omega)
      rw [ex, en] at this
      rw [intOf1_eq e1, intOf1_eq e2, ← Option.some.inj h]
      exact this
    · exact nsd h
  · exact nsd h
theorem X5_ok (nv0 : NvOk B L (nat0 C p1 p2)) (nv4 : NvOk B (L + 70) (X4 C p1 p2)) {a c P : Addr} {fd : FuncData} (na : NestAt B "_digits2int" dD2i dD2n "_digits2int.<locals>.inner" a c P fd) (hbind : ∀ v w, bindArgs fd ⟨[v, w], []⟩ = pure [(Str.ofString "digits", v), (Str.ofString "n", w)]) : NvOk B (L + 70) (X5 C p1 p2) := by
  refine orC_ok nv4 fun ds d h => ⟨_, na.mg, na.fc.keep0, ?_⟩
  unfold d2iN at h
  split at h
  · rename_i p hp
    obtain ⟨a, b, rfl, e1, e2⟩ := two_eq hp
    split at h
    · rename_i hc
      rw [Bool.and_eq_true] at hc
      split at h
      · rename_i l h3
        split at h
        · rename_i h4
          have h1 := of_decide_eq_true hc.1
          have h2 := of_decide_eq_true hc.2
          have en : ((p.2.toNat : Nat) : Int) = p.2 := Int.toNat_of_nonneg h1
          obtain ⟨e3, e4⟩ := intsB_eq h3
          have := d2i_nat nv0 na.fc hbind na.code na.ch na.p na.dn na.q na.bm (ds := l) (n := p.2.toNat) e4 (Nat.le_of_ble_eq_true h4) (by omega)
          rw [en, ← e3] at this
          rw [lstOf1_eq e1, intOf1_eq e2, ← Option.some.inj h]
          exact this
        · exact nsd h
      · exact nsd h
    · exact nsd h
  · exact nsd h

/-- a small division -/
noncomputable def d2n1 : Stmt := defOf "_div2n1n" Pb
noncomputable def dvN : List D → Option D := fun ds => match three intOf1 intOf1 intOf1 ds with
  | some p => match decide (0 < p.2.1) && Nat.ble (Builtin.Int.intBits p.2.1) 64 && decide ((Builtin.Int.intBits p.1 : Int) - p.2.2 ≤ 4000) with
    | true => some (.tup [.int (p.1.fdiv p.2.1), .int (p.1.fmod p.2.1)])
    | false => none
  | none => none
noncomputable def X6 (C p1 p2 : Nat) : Nv := orN (X5 C p1 p2) (atN "_div2n1n" dvN)
theorem bits9 {b : Int} (h0 : 0 < b) (h : Builtin.Int.intBits b ≤ 64) : b.natAbs < 2 ^ 9000 := by
  have h1 := lt_pow_bits b.toNat
  rw [Int.toNat_of_nonneg (Int.le_of_lt h0)] at h1
  have h2 : b.natAbs = b.toNat := by omega
  rw [h2]
  exact Nat.lt_of_lt_of_le h1 (Nat.pow_le_pow_right (by decide) (Nat.le_trans h (by decide)))
theorem X6_ok (nv5 : NvOk B L (X5 C p1 p2)) (hf : GfAt B "_div2n1n" (fnOf d2n1)) : NvOk B (L + 1) (X6 C p1 p2) := by
  refine orF_ok (H := noHk) (m := 12) (k := 9) (n := 12) nv5 noHk_ok hf fun ds d h => ?_
  unfold dvN at h
  split at h
  · rename_i p hp
    obtain ⟨da, db, dn, rfl, e1, e2, e3⟩ := three_eq hp
    obtain ⟨a, b, n⟩ := p
    rw [intOf1_eq e1, intOf1_eq e2, intOf1_eq e3]
    split at h
    · rename_i hc
      simp only [Bool.and_eq_true] at hc
      obtain ⟨⟨h1, h2⟩, h3⟩ := hc
      rw [← Option.some.inj h]
      have h1 := of_decide_eq_true h1
      refine runF_ret (Γ := bindPs [] ["a", "b", "n"] [.int a, .int b, .int n]) (Ω := []) rfl ?_
      refine evSs_ret ?_
      refine (evS_IfH (c := true) rfl (testD_of (d := .bool (decide ((Builtin.Int.intBits a : Int) - n ≤ 4000))) (by kernel_rfl) (by show some (decide _) = _; rw [h3]))).trans ?_
      refine evSs_ret (evS_RetH rfl ?_)
      exact evE_prim rfl rfl (each_cons (d := .int a) rfl (by kernel_rfl) (each_cons (d := .int b) (ds := []) rfl (by kernel_rfl) rfl)) (by kernel_rfl) (pr := (.divmod, .builtin "divmod")) (by kernel_rfl) (dvm_D (by omega) (bits9 h1 (Nat.le_of_ble_eq_true h2)))
    · exact nsd h
  · exact nsd h
end
end Mine

end
section
open PySem PySem.W PyProof.Rows
set_option Elab.async false
set_option maxRecDepth 100000
set_option exponentiation.threshold 10000
namespace Mine

section
variable {H : Hk} {ev : Kd → Gm → Expr → Option D} {k m : Nat} {sc : Kd} {Γ Γ1 : Gm} {Ω Ω1 : Om}
theorem evS_hook {st : Stmt} {r : Rs} (h : H.S sc Γ Ω st = some r) : evS H ev k (m + 1) sc Γ Ω st = some r := by
  show (match H.S sc Γ Ω st with
    | some r => some r
    | none => _) = _
  rw [h]
theorem evS_asgE {x : Str} {px p : Pos} {v : Expr} {d : D} (hH : H.S sc Γ Ω (.Assign [.Name x px] v p) = none) (hx : storable sc x = true) (hl : isLst v = false) (h : evF (ev sc) Γ Ω v = some (d, Γ1, Ω1)) : evS H ev k (m + 1) sc Γ Ω (.Assign [.Name x px] v p) = some (.nxt, put Γ1 x d, del Ω1 x) := by
  show (match H.S sc Γ Ω (.Assign [.Name x px] v p) with
    | some r => some r
    | none => assignD ev sc Γ Ω (.Name x px) v) = _
  rw [hH]; dsimp only
  unfold assignD; dsimp only
  rw [hx]; dsimp only; rw [hl]; dsimp only; rw [h]
theorem evF_frz {f : Gm → Expr → Option D} {e : Expr} {d : D} {x : Str × OD} {Ω' : Om} (h0 : f Γ e = none) (h : f (frz Γ (x :: Ω')) e = some d) : evF f Γ (x :: Ω') e = some (d, frz Γ (x :: Ω'), []) := by
  unfold evF; rw [h0]; dsimp only; rw [h]
theorem evS_app {x mn : Str} {px apos cpos p : Pos} {e : Expr} {ds : List D} {d : D} (hH : H.S sc Γ Ω (.Expr (.Call (.Attribute (.Name x px) mn apos) [e] [] cpos) p) = none) (hm : strEq mn "append" = true) (hd : strEq x "__debug__" = false) (hc : strEq x "__classdict__" = false)
    (hl : (apos.endLine == cpos.line) = true) (hs : isStar e = false) (hx : storable sc x = true) (hq : look Ω x = some (.lst ds)) (h : ev sc Γ e = some d) (hn : Nat.ble ds.length 900 = true) :
    evS H ev k (m + 1) sc Γ Ω (.Expr (.Call (.Attribute (.Name x px) mn apos) [e] [] cpos) p) = some (.nxt, Γ, putA Ω x (.lst (ds ++ [d]))) := by
  show (match H.S sc Γ Ω (.Expr (.Call (.Attribute (.Name x px) mn apos) [e] [] cpos) p) with
    | some r => some r
    | none => appendD (ev sc) sc Γ Ω x mn apos cpos e) = _
  rw [hH]; dsimp only
  unfold appendD
  rw [hm]; dsimp only; rw [hd, hc]; dsimp only; rw [hl, hs, hx]; dsimp only; rw [hq]; dsimp only; rw [h]; dsimp only; rw [hn]
/-- a loop by what holds between the turns; what is done is a front of the list -/
theorem forD_pre {α : Type} {t : Expr} {body : Gm → Om → Option Rs} {f : α → D} (I : List α → Gm → Om → Prop) (l : List α) (hs : ∀ done x rest Γ Ω, done ++ x :: rest = l → I done Γ Ω → ∃ Γ1 Γ2 Ω2, bindT sc t (f x) Γ = some Γ1 ∧ body Γ1 (delT Ω t) = some (.nxt, Γ2, Ω2) ∧ I (done ++ [x]) Γ2 Ω2) : ∀ (r done : List α) (Γ : Gm) (Ω : Om), done ++ r = l → I done Γ Ω →
    ∃ Γ2 Ω2, forD sc t body (r.map f) Γ Ω = some (.nxt, Γ2, Ω2) ∧ I l Γ2 Ω2
  | [], done, Γ, Ω, e, h => ⟨Γ, Ω, rfl, by rw [List.append_nil] at e; rw [← e]; exact h⟩
  | x :: r, done, Γ, Ω, e, h => by
    obtain ⟨Γ1, Γ2, Ω2, h1, h2, h3⟩ := hs done x r Γ Ω e h
    obtain ⟨Γ3, Ω3, h4, h5⟩ := forD_pre I l hs r (done ++ [x]) Γ2 Ω2 (by rw [List.append_assoc]; exact e) h3
    refine ⟨Γ3, Ω3, ?_, h5⟩
    rw [List.map_cons]
    show (match bindT sc t (f x) Γ with
    | none => none
    | some Γ1 => match body Γ1 (delT Ω t) with
      | none => none
      | some (fl, Γ2, Ω2) => match fl with
        | .nxt => forD sc t body (r.map f) Γ2 Ω2
        | .cnt => forD sc t body (r.map f) Γ2 Ω2
        | .brk => some (.nxt, Γ2, Ω2)
        | .ret d => some (.ret d, Γ2, Ω2)) = _
    rw [h1]; dsimp only; rw [h2]; exact h4
end

/-! the schoolbook division -/
theorem digs_val (n : Nat) : ∀ (k x : Nat), val n (digs n k x) = ((x % 2 ^ (n * k) : Nat) : Int)
  | 0, x => by simp [digs, val, Nat.mod_one]
  | k + 1, x => by
    show ((x % 2 ^ n : Nat) : Int) + val n (digs n k (x / 2 ^ n)) * 2 ^ n = _
    rw [digs_val n k, Nat.mul_succ, Nat.add_comm (n * k) n, Nat.pow_add, Nat.mod_mul]
    push_cast
    rw [Int.mul_comm (2 ^ n)]
theorem digs_bound (n : Nat) : ∀ (k x : Nat), ∀ d ∈ digs n k x, 0 ≤ d ∧ d < 2 ^ n
  | 0, _, d, h => nomatch h
  | k + 1, x, d, h => by
    rcases List.mem_cons.mp h with rfl | h
    · have : x % 2 ^ n < 2 ^ n := Nat.mod_lt _ (Nat.two_pow_pos n)
      refine ⟨Int.natCast_nonneg _, ?_⟩
      have := Int.ofNat_lt.mpr this
      simpa using this
    · exact digs_bound n k _ d h
noncomputable def dDmp : Stmt := defOf "_divmod_pos" Pb
noncomputable def dmF : Stmt := (stBody dDmp).getD 4 (.Pass default)
noncomputable def dmB : List Stmt := ifB dmF
noncomputable def dmSc : Kd := (fnOf dDmp).scope.names
noncomputable def dmG (a b n r : Int) (xs : List D) : Gm := put (put (put (bindPs [] ["a", "b"] [.int a, .int b]) "n" (.int n)) "a_digits" (.lst xs)) "r" (.int r)
theorem dm_step {b n v d : Int} (hb : 0 < b) : (d + v * 2 ^ n.toNat) / b = ((v % b) * 2 ^ n.toNat + d) / b + (v / b) * 2 ^ n.toNat ∧ (d + v * 2 ^ n.toNat) % b = ((v % b) * 2 ^ n.toNat + d) % b := by
  have e : d + v * 2 ^ n.toNat = ((v % b) * 2 ^ n.toNat + d) + b * ((v / b) * 2 ^ n.toNat) := by
    have h := Int.emod_add_mul_ediv v b
    generalize v % b = r at h ⊢
    generalize v / b = q at h ⊢
    rw [← h, Int.add_mul, Int.mul_assoc]
    generalize r * 2 ^ n.toNat = x
    generalize b * (q * 2 ^ n.toNat) = y
    omega
  rw [e, Int.add_mul_ediv_left _ _ (by omega), Int.add_mul_emod_self_left]
  exact ⟨rfl, rfl⟩

theorem revFor_eq {X : Nv} {q : Nat} {rec : Sv} {sc : Kd} {Γ : Gm} {Ω : Om} {t : Expr} {x : Str} {e : Expr} {b : List Stmt} {xs : List D} (hx : strEq x "reversed" = true) (hd : strEq x "__debug__" = false) (hs : isStar e = false) (hk : kc (look sc x) = .glo) (he : evE X q sc Γ e = some (.lst xs)) :
    revFor X q rec sc Γ Ω t x e b = forD sc t (evSs rec sc b) xs.reverse Γ Ω := by
  unfold revFor
  rw [hx, hd, hs]; dsimp only; rw [hk]; dsimp only; rw [he]
theorem reverseD_eq {sc : Kd} {Γ : Gm} {Ω : Om} {x m : Str} {apos cpos : Pos} {ds : List D} (hm : strEq m "reverse" = true) (hd : strEq x "__debug__" = false) (hc : strEq x "__classdict__" = false) (hl : (apos.endLine == cpos.line) = true) (hx : storable sc x = true) (hq : look Ω x = some (.lst ds)) (hn : Nat.ble ds.length 1000 = true) :
    reverseD sc Γ Ω x m apos cpos = some (.nxt, Γ, putA Ω x (.lst ds.reverse)) := by
  unfold reverseD
  rw [hm]; dsimp only; rw [hd, hc]; dsimp only; rw [hl, hx]; dsimp only; rw [hq]; dsimp only; rw [hn]
theorem hkRev_rev {X : Nv} {q k m : Nat} {sc : Kd} {Γ : Gm} {Ω : Om} {x mn : Str} {px apos cpos p : Pos} : (hkRev X q k m).S sc Γ Ω (.Expr (.Call (.Attribute (.Name x px) mn apos) [] [] cpos) p) = reverseD sc Γ Ω x mn apos cpos := rfl
inductive DmInv (a b n N : Nat) (done : List Int) (Γ : Gm) (Ω : Om) : Prop
  | mk (qs : List Int) (r : Int) (hO : Ω = [(Str.ofString "q_digits", OD.lst (qs.map D.int))]) (hql : qs.length = done.length) (hqb : ∀ q ∈ qs, 0 ≤ q ∧ q < 2 ^ n) (hqv : val n qs.reverse = val n done.reverse / b) (h0v : 0 ≤ val n done.reverse) (hr : r = val n done.reverse % b)
    (hG : Γ = dmG a b n r ((digs n N a).map D.int) ∨ ∃ d q : Int, Γ = put (put (dmG a b n r ((digs n N a).map D.int)) "a_digit" (.int d)) "q_digit" (.int q)) : DmInv a b n N done Γ Ω
theorem dm_run {X : Nv} {a b n N : Nat} (hb : 0 < b) (hbn : b < 2 ^ n) (hn : n ≤ 2 ^ 14) (ha : a < 2 ^ (n * N)) (hN : N ≤ 64) (hbits : Builtin.Int.intBits (b : Int) = n)
    (h1 : X.N "_int2digits" [.int a, .int n] = some (.lst ((digs n N a).map D.int)))
    (h2 : ∀ t : Int, 0 ≤ t → t < 2 ^ n * b → X.N "_div2n1n" [.int t, .int b, .int n] = some (.tup [.int (t / b), .int (t % b)]))
    (h3 : ∀ qs : List Int, (∀ q ∈ qs, 0 ≤ q ∧ q < 2 ^ n) → qs.length = N → X.N "_digits2int" [.lst (qs.map D.int), .int n] = some (.int (val n qs))) :
    runF (evS (hkRev X 12 9 10) (evE X 12) 9 12) (fnOf dDmp) [.int a, .int b] = some (.tup [.int ((a : Int) / b), .int ((a : Int) % b)]) := by
  have hb' : (0 : Int) < b := Int.natCast_pos.mpr hb
  have hbn' : (b : Int) < 2 ^ n := by have := Int.ofNat_lt.mpr hbn; simpa using this
  have loop := forD_pre (sc := dmSc) (t := forT dmF) (body := evSs (evS noHk (evE X 12) 9 10) dmSc dmB) (f := D.int)
    (DmInv a b n N)
    (digs n N a).reverse ?_ (digs n N a).reverse [] (dmG a b n 0 ((digs n N a).map D.int)) [(Str.ofString "q_digits", OD.lst [])] rfl ⟨[], 0, rfl, rfl, (fun _ h => nomatch h), by simp [val], by simp [val], by simp [val], .inl rfl⟩
  · obtain ⟨Γ2, Ω2, l1, ⟨qs, r, rfl, hql, hqb, hqv, h0v, hr, hΓ⟩⟩ := loop
    have hval : val n (digs n N a) = (a : Int) := by rw [digs_val, Nat.mod_eq_of_lt ha]
    simp only [List.reverse_reverse, hval] at hqv hr h0v hql
    rw [List.map_reverse] at l1
    rw [List.length_reverse, digs_len] at hql
    refine runF_ret (Γ := put (frz Γ2 [(Str.ofString "q_digits", OD.lst (qs.map D.int).reverse)]) "q" (.int ((a : Int) / b))) (Ω := []) rfl ?_
    refine (evSs_cons (evS_asg (d := .int n) rfl rfl rfl (by rw [← hbits]; kernel_rfl))).trans ?_
    refine (evSs_cons (evS_asg (d := .lst ((digs n N a).map D.int)) rfl rfl rfl (evE_call rfl rfl (each_cons (d := .int a) rfl (by kernel_rfl) (each_cons (d := .int n) (ds := []) rfl (by kernel_rfl) rfl)) h1))).trans ?_
    refine (evSs_cons (evS_asg (d := .int 0) rfl rfl rfl (by kernel_rfl))).trans ?_
    refine (evSs_cons (evS_own (ds := []) rfl rfl rfl (by kernel_rfl))).trans ?_
    have hfor : evS (hkRev X 12 9 10) (evE X 12) 9 12 dmSc (dmG a b n 0 ((digs n N a).map D.int)) [(Str.ofString "q_digits", OD.lst [])] dmF = some (.nxt, Γ2, [(Str.ofString "q_digits", OD.lst (qs.map D.int))]) := by
      refine evS_hook ?_
      show revFor X 12 (evS noHk (evE X 12) 9 10) dmSc (dmG a b n 0 ((digs n N a).map D.int)) [(Str.ofString "q_digits", OD.lst [])] (forT dmF) "reversed" (argE 0 (asV dmF)) dmB = _
      exact (revFor_eq rfl rfl rfl rfl (by kernel_rfl)).trans l1
    refine (evSs_cons (Γ1 := Γ2) (Ω1 := [(Str.ofString "q_digits", OD.lst (qs.map D.int))]) hfor).trans ?_
    refine (evSs_cons (evS_hook (hkRev_rev.trans (reverseD_eq (ds := qs.map D.int) rfl rfl rfl rfl rfl rfl (by rw [List.length_map]; exact Nat.ble_eq_true_of_le (by omega)))))).trans ?_
    have e3 := h3 qs.reverse (fun q hq => hqb q (List.mem_reverse.mp hq)) (by rw [List.length_reverse]; exact hql)
    rw [List.map_reverse, hqv] at e3
    clear hqv h0v hql hqb hval l1 hfor
    rcases hΓ with rfl | ⟨d, q, rfl⟩
    · refine (evSs_cons (evS_asgE (d := .int ((a : Int) / b)) rfl rfl rfl (evF_frz (by kernel_rfl) (evE_call rfl rfl (each_cons (d := .lst (qs.map D.int).reverse) rfl (by kernel_rfl) (each_cons (d := .int n) (ds := []) rfl (by kernel_rfl) rfl)) e3)))).trans ?_
      exact evSs_ret (evS_RetH rfl (by rw [← hr]; kernel_rfl))
    · refine (evSs_cons (evS_asgE (d := .int ((a : Int) / b)) rfl rfl rfl (evF_frz (by kernel_rfl) (evE_call rfl rfl (each_cons (d := .lst (qs.map D.int).reverse) rfl (by kernel_rfl) (each_cons (d := .int n) (ds := []) rfl (by kernel_rfl) rfl)) e3)))).trans ?_
      exact evSs_ret (evS_RetH rfl (by rw [← hr]; kernel_rfl))
  · rintro done d rest Γ Ω hdr ⟨qs, r, rfl, hql, hqb, hqv, h0v, hr, hΓ⟩
    have hd : d ∈ (digs n N a).reverse := by rw [← hdr]; exact List.mem_append_right _ List.mem_cons_self
    have hlq : Nat.ble (qs.map D.int).length 900 = true := by
      have := congrArg List.length hdr
      rw [List.length_append, List.length_reverse, digs_len, List.length_cons] at this
      rw [List.length_map]
      exact Nat.ble_eq_true_of_le (by omega)
    have hdb := digs_bound n N a d (List.mem_reverse.mp hd)
    have hr0 : 0 ≤ r := by rw [hr]; exact Int.emod_nonneg _ (by omega)
    have hrb : r < b := by rw [hr]; exact Int.emod_lt_of_pos _ hb'
    have hΓ' : ∃ Γ1, bindT dmSc (forT dmF) (.int d) Γ = some Γ1 ∧ (Γ1 = put (dmG a b n r ((digs n N a).map D.int)) "a_digit" (.int d) ∨ ∃ q, Γ1 = put (put (dmG a b n r ((digs n N a).map D.int)) "a_digit" (.int d)) "q_digit" (.int q)) := by
      rcases hΓ with rfl | ⟨d', q, rfl⟩
      · exact ⟨_, by kernel_rfl, .inl rfl⟩
      · exact ⟨put (put (dmG a b n r ((digs n N a).map D.int)) "a_digit" (.int d)) "q_digit" (.int q), by kernel_rfl, .inr ⟨q, rfl⟩⟩
    obtain ⟨Γ1, hbd, hΓ1⟩ := hΓ'
    have hpn : (0 : Int) < 2 ^ n := Int.pow_pos (by decide)
    have ht0 : 0 ≤ r * 2 ^ n + d := Int.add_nonneg (Int.mul_nonneg hr0 (Int.le_of_lt hpn)) hdb.1
    have htb : r * 2 ^ n + d < 2 ^ n * b := by
      have h5 : (r + 1) * 2 ^ n ≤ b * 2 ^ n := Int.mul_le_mul_of_nonneg_right (by omega) (Int.le_of_lt hpn)
      rw [Int.add_mul, Int.one_mul] at h5
      rw [Int.mul_comm (2 ^ n)]
      have := hdb.2
      generalize b * (2 : Int) ^ n = z at *
      generalize r * (2 : Int) ^ n = y at *
      omega
    have e2 := h2 _ ht0 htb
    have st := dm_step (b := (b : Int)) (n := (n : Int)) (v := val n done.reverse) (d := d) hb'
    rw [Int.toNat_natCast] at st
    have hshl : binop .LShift (.int r) (.int n) = some (.int (r * 2 ^ n)) := by
      have := shl_D (a := r) (n := (n : Int)) (Int.natCast_nonneg _) (by
        have : Builtin.Int.intBits r ≤ n := intBits_le hr0 (Int.lt_trans hrb hbn')
        omega)
      rwa [Int.toNat_natCast] at this
    have hbody : evSs (evS noHk (evE X 12) 9 10) dmSc dmB Γ1 (delT [(Str.ofString "q_digits", OD.lst (qs.map D.int))] (forT dmF)) = some (.nxt, put (put (dmG a b n ((r * 2 ^ n + d) % b) ((digs n N a).map D.int)) "a_digit" (.int d)) "q_digit" (.int ((r * 2 ^ n + d) / b)), [(Str.ofString "q_digits", OD.lst (qs.map D.int ++ [.int ((r * 2 ^ n + d) / b)]))]) := by
      rcases hΓ1 with rfl | ⟨q, rfl⟩
      · refine (evSs_cons (evS_tup (Γ1 := put (put (dmG a b n ((r * 2 ^ n + d) % b) ((digs n N a).map D.int)) "a_digit" (.int d)) "q_digit" (.int ((r * 2 ^ n + d) / b))) rfl rfl (evE_call rfl rfl (each_cons (d := .int (r * 2 ^ n + d)) rfl (evE_bin (a := .int (r * 2 ^ n)) (b := .int d) (evE_bin (a := .int r) (b := .int n) (by kernel_rfl) (by kernel_rfl) hshl) (by kernel_rfl) rfl) (each_cons (d := .int b) rfl (by kernel_rfl) (each_cons (d := .int n) (ds := []) rfl (by kernel_rfl) rfl))) e2) (by kernel_rfl))).trans ?_
        exact (evSs_cons (evS_app (ds := qs.map D.int) (d := .int ((r * 2 ^ n + d) / b)) rfl rfl rfl rfl rfl rfl rfl rfl (by kernel_rfl) hlq)).trans rfl
      · refine (evSs_cons (evS_tup (Γ1 := put (put (dmG a b n ((r * 2 ^ n + d) % b) ((digs n N a).map D.int)) "a_digit" (.int d)) "q_digit" (.int ((r * 2 ^ n + d) / b))) rfl rfl (evE_call rfl rfl (each_cons (d := .int (r * 2 ^ n + d)) rfl (evE_bin (a := .int (r * 2 ^ n)) (b := .int d) (evE_bin (a := .int r) (b := .int n) (by kernel_rfl) (by kernel_rfl) hshl) (by kernel_rfl) rfl) (each_cons (d := .int b) rfl (by kernel_rfl) (each_cons (d := .int n) (ds := []) rfl (by kernel_rfl) rfl))) e2) (by kernel_rfl))).trans ?_
        exact (evSs_cons (evS_app (ds := qs.map D.int) (d := .int ((r * 2 ^ n + d) / b)) rfl rfl rfl rfl rfl rfl rfl rfl (by kernel_rfl) hlq)).trans rfl
    refine ⟨Γ1, _, _, hbd, hbody, ⟨qs ++ [(r * 2 ^ n + d) / b], _, by rw [List.map_append]; rfl, by rw [List.length_append, List.length_append, hql]; rfl, ?_, ?_, ?_, ?_, .inr ⟨_, _, rfl⟩⟩⟩
    · intro q hq
      rcases List.mem_append.mp hq with hq | hq
      · exact hqb q hq
      · rw [List.mem_singleton.mp hq]
        exact ⟨Int.ediv_nonneg ht0 (Int.le_of_lt hb'), Int.ediv_lt_of_lt_mul hb' htb⟩
    · rw [List.reverse_append, List.reverse_append]
      show (r * 2 ^ n + d) / b + val n qs.reverse * 2 ^ n = (d + val n done.reverse * 2 ^ n) / b
      rw [st.1, hqv, hr]
    · rw [List.reverse_append]
      show 0 ≤ d + val n done.reverse * 2 ^ n
      exact Int.add_nonneg hdb.1 (Int.mul_nonneg h0v (Int.le_of_lt hpn))
    · rw [List.reverse_append]
      show (r * 2 ^ n + d) % b = (d + val n done.reverse * 2 ^ n) % b
      rw [st.2, hr]
end Mine

end
section
open PySem PySem.W PyProof.Rows
set_option Elab.async false
set_option maxRecDepth 100000
set_option exponentiation.threshold 10000
namespace Mine

noncomputable def dmP (p : Int × Int) : Option D := match decide (0 ≤ p.1) && decide (0 < p.2) && Nat.ble (Builtin.Int.intBits p.2) 64 && Nat.ble (ndig p.1.toNat (Builtin.Int.intBits p.2)) 64 with
  | true => some (.tup [.int (p.1 / p.2), .int (p.1 % p.2)])
  | false => none
noncomputable def dmN : List D → Option D := fun ds => match two intOf1 intOf1 ds with
  | some p => dmP p
  | none => none
theorem dmN_eq {a b : Int} (h0 : 0 ≤ a) (hb : 0 < b) (h1 : Builtin.Int.intBits b ≤ 64) (h2 : ndig a.toNat (Builtin.Int.intBits b) ≤ 64) : dmN [.int a, .int b] = some (.tup [.int (a / b), .int (a % b)]) := by
  show dmP (a, b) = _
  unfold dmP
  dsimp only
  rw [decide_eq_true h0, decide_eq_true hb, Nat.ble_eq_true_of_le h1, Nat.ble_eq_true_of_le h2]; rfl
theorem dmP_inv {a b : Int} {d : D} (h : dmP (a, b) = some d) : d = .tup [.int (a / b), .int (a % b)] ∧ 0 ≤ a ∧ 0 < b ∧ Builtin.Int.intBits b ≤ 64 ∧ ndig a.toNat (Builtin.Int.intBits b) ≤ 64 := by
  unfold dmP at h
  split at h
  · rename_i hc
    simp only [Bool.and_eq_true] at hc
    exact ⟨(Option.some.inj h).symm, of_decide_eq_true hc.1.1.1, of_decide_eq_true hc.1.1.2, Nat.le_of_ble_eq_true hc.1.2, Nat.le_of_ble_eq_true hc.2⟩
  · exact nsd h
theorem dmN_inv {ds : List D} {d : D} (h : dmN ds = some d) : ∃ a b : Int, ds = [.int a, .int b] ∧ d = .tup [.int (a / b), .int (a % b)] ∧ 0 ≤ a ∧ 0 < b ∧ Builtin.Int.intBits b ≤ 64 ∧ ndig a.toNat (Builtin.Int.intBits b) ≤ 64 := by
  unfold dmN at h
  split at h
  · rename_i p hp
    obtain ⟨x, y, rfl, e1, e2⟩ := two_eq hp
    obtain ⟨a, b⟩ := p
    exact ⟨a, b, by rw [intOf1_eq e1, intOf1_eq e2], dmP_inv h⟩
  · exact nsd h
theorem i2dN_eq {a n : Nat} (h0 : 0 < n) (hn : n ≤ 16384) (h2 : ndig a n ≤ 64) : i2dN [.int a, .int n] = some (.lst ((digs n (ndig a n) a).map D.int)) := by
  show (match decide (0 ≤ (a : Int)) && decide (0 < (n : Int)) && decide ((n : Int) ≤ 16384) && Nat.ble (ndig (a : Int).toNat (n : Int).toNat) 64 with
    | true => some (D.lst ((digs (n : Int).toNat (ndig (a : Int).toNat (n : Int).toNat) (a : Int).toNat).map D.int))
    | false => none) = _
  rw [decide_eq_true (Int.natCast_nonneg a), decide_eq_true (by omega : (0 : Int) < n), decide_eq_true (by omega : (n : Int) ≤ 16384), Int.toNat_natCast, Int.toNat_natCast, Nat.ble_eq_true_of_le h2]; rfl
theorem d2iN_eq {n : Nat} {qs : List Int} (hn : n ≤ 16384) (h1 : ∀ q ∈ qs, 0 ≤ q ∧ q < 2 ^ n) (h2 : qs.length ≤ 64) : d2iN [.lst (qs.map D.int), .int n] = some (.int (val n qs)) := by
  show (match decide (0 ≤ (n : Int)) && decide ((n : Int) ≤ 16384) with
    | true => match intsB (n : Int).toNat (qs.map D.int) with
      | some l => match Nat.ble l.length 64 with
        | true => some (D.int (val (n : Int).toNat l))
        | false => none
      | none => none
    | false => none) = _
  rw [decide_eq_true (Int.natCast_nonneg n), decide_eq_true (by omega : (n : Int) ≤ 16384), Int.toNat_natCast, intsB_map h1]
  show (match Nat.ble qs.length 64 with
        | true => some (D.int (val n qs))
        | false => none) = _
  rw [Nat.ble_eq_true_of_le h2]
theorem dvN_eq {t b n : Int} (hb : 0 < b) (h1 : Builtin.Int.intBits b ≤ 64) (h2 : (Builtin.Int.intBits t : Int) - n ≤ 4000) : dvN [.int t, .int b, .int n] = some (.tup [.int (t / b), .int (t % b)]) := by
  show (match decide (0 < b) && Nat.ble (Builtin.Int.intBits b) 64 && decide ((Builtin.Int.intBits t : Int) - n ≤ 4000) with
    | true => some (D.tup [.int (t.fdiv b), .int (t.fmod b)])
    | false => none) = _
  rw [decide_eq_true hb, Nat.ble_eq_true_of_le h1, decide_eq_true h2]
  show some (D.tup [.int (t.fdiv b), .int (t.fmod b)]) = _
  rw [Int.fdiv_eq_ediv_of_nonneg _ (Int.le_of_lt hb), Int.fmod_eq_emod_of_nonneg _ (Int.le_of_lt hb)]

variable {B : Bs} {L : Nat} {C p1 p2 : Nat}
noncomputable def X7 (C p1 p2 : Nat) : Nv := orN (X6 C p1 p2) (atN "_divmod_pos" dmN)
theorem X7_ok (nv6 : NvOk B L (X6 C p1 p2)) (hmg : B.mg "reversed" = none) (hmb : B.mb "reversed" = some (.type "reversed")) (hf : GfAt B "_divmod_pos" (fnOf dDmp)) : NvOk B (L + 1) (X7 C p1 p2) := by
  refine orF_ok (H := hkRev (X6 C p1 p2) 12 9 10) (m := 12) (k := 9) (n := 12) nv6 (hkRev_ok nv6 hmg hmb 12 9 10) hf fun ds d h => ?_
  obtain ⟨a, b, rfl, rfl, h0, hb, h1, h2⟩ := dmN_inv h
  obtain ⟨a, rfl⟩ := Int.eq_ofNat_of_zero_le h0
  obtain ⟨b, rfl⟩ := Int.eq_ofNat_of_zero_le (Int.le_of_lt hb)
  have hb : 0 < b := by omega
  rw [Int.toNat_natCast] at h2
  have hlt := lt_pow_bits b
  have hn0 : 0 < Builtin.Int.intBits (b : Int) := Nat.pos_of_ne_zero fun e => by rw [e] at hlt; omega
  refine dm_run hb hlt (Nat.le_trans h1 (by decide)) (ndig_ok hn0) h2 rfl ?_ (fun t ht0 ht => ?_) fun qs hq hl => ?_
  · exact orN_old (orN_old (orN_new (by kernel_rfl) (i2dN_eq hn0 (Nat.le_trans h1 (by decide)) h2)))
  · refine orN_new (by kernel_rfl) (dvN_eq (by omega) h1 ?_)
    have hbl : (b : Int) < 2 ^ Builtin.Int.intBits (b : Int) := by have := Int.ofNat_lt.mpr hlt; simpa using this
    have : Builtin.Int.intBits t ≤ Builtin.Int.intBits (b : Int) + Builtin.Int.intBits (b : Int) := intBits_le ht0 (by
      rw [Int.pow_add]
      exact Int.lt_of_lt_of_le ht (Int.mul_le_mul_of_nonneg_left (Int.le_of_lt hbl) (Int.le_of_lt (Int.pow_pos (by decide)))))
    omega
  · exact orN_old (orN_new (by kernel_rfl) (d2iN_eq (Nat.le_trans h1 (by decide)) hq (by omega)))

noncomputable def dIdm : Stmt := defOf "int_divmod" Pb
noncomputable def X8 (C p1 p2 : Nat) : Nv := orN (X7 C p1 p2) (atN "int_divmod" dmN)
theorem X8_ok (nv7 : NvOk B L (X7 C p1 p2)) (hf : GfAt B "int_divmod" (fnOf dIdm)) : NvOk B (L + 1) (X8 C p1 p2) := by
  refine orF_ok (H := noHk) (m := 12) (k := 9) (n := 12) nv7 noHk_ok hf fun ds d h => ?_
  obtain ⟨a, b, rfl, rfl, h0, hb, h1, h2⟩ := dmN_inv h
  refine runF_ret (Γ := bindPs [] ["a", "b"] [.int a, .int b]) (Ω := []) rfl ?_
  refine evSs_ret ?_
  refine (evS_IfH (c := false) rfl (testD_of (d := .bool (decide (b = 0))) (by kernel_rfl) (by show some (decide _) = _; rw [decide_eq_false (by omega)]))).trans ?_
  refine evSs_ret ((evS_IfH (c := false) rfl (testD_of (d := .bool (decide (b < 0))) (by kernel_rfl) (by show some (decide _) = _; rw [decide_eq_false (by omega)]))).trans ?_)
  refine evSs_ret ((evS_IfH (c := false) rfl (testD_of (d := .bool (decide (a < 0))) (by kernel_rfl) (by show some (decide _) = _; rw [decide_eq_false (by omega)]))).trans ?_)
  exact evSs_ret (evS_RetH rfl (evE_call rfl rfl (each_cons (d := .int a) rfl (by kernel_rfl) (each_cons (d := .int b) (ds := []) rfl (by kernel_rfl) rfl)) (orN_new (by kernel_rfl) h)))

theorem not_ediv {a b : Int} (hb : 0 < b) : -((-a - 1) / b) - 1 = a / b ∧ b + (-((-a - 1) % b) - 1) = a % b := by
  have h1 := Int.emod_add_mul_ediv (-a - 1) b
  have h2 := Int.emod_nonneg (-a - 1) (by omega : b ≠ 0)
  have h3 := Int.emod_lt_of_pos (-a - 1) hb
  generalize (-a - 1) % b = r at *
  generalize (-a - 1) / b = q at *
  have e : a = (b - r - 1) + b * (-q - 1) := by
    have : b * (-q - 1) = - (b * q) - b := by rw [Int.mul_sub, Int.mul_neg, Int.mul_one]
    rw [this]
    generalize b * q = z at *
    omega
  have e1 : a / b = -q - 1 := by
    rw [e, Int.add_mul_ediv_left _ _ (by omega), Int.ediv_eq_zero_of_lt (by omega) (by omega), Int.zero_add]
  have e2 : a % b = b - r - 1 := by
    rw [e, Int.add_mul_emod_self_left, Int.emod_eq_of_lt (by omega) (by omega)]
  rw [e1, e2]
  omega
noncomputable def ngN : List D → Option D := fun ds => match two intOf1 intOf1 ds with
  | some p => match decide (p.1 < 0) with
    | true => match dmP (-p.1 - 1, p.2) with
      | some _ => some (.tup [.int (p.1 / p.2), .int (p.1 % p.2)])
      | none => none
    | false => none
  | none => none
noncomputable def X9 (C p1 p2 : Nat) : Nv := orN (X8 C p1 p2) (atN "int_divmod" ngN)
theorem X9_ok (nv8 : NvOk B L (X8 C p1 p2)) (hf : GfAt B "int_divmod" (fnOf dIdm)) : NvOk B (L + 1) (X9 C p1 p2) := by
  refine orF_ok (H := noHk) (m := 12) (k := 9) (n := 12) nv8 noHk_ok hf fun ds d h => ?_
  unfold ngN at h
  split at h
  · rename_i p hp
    obtain ⟨x, y, rfl, e1, e2⟩ := two_eq hp
    obtain ⟨a, b⟩ := p
    rw [intOf1_eq e1, intOf1_eq e2]
    clear hp e1 e2
    dsimp only at h
    split at h
    · rename_i ha
      split at h
      · rename_i d' hd'
        rw [← Option.some.inj h]
        have ha := of_decide_eq_true ha
        obtain ⟨rfl, h0, hb, h1, h2⟩ := dmP_inv hd'
        replace hd' : dmN [.int (-a - 1), .int b] = some (.tup [.int ((-a - 1) / b), .int ((-a - 1) % b)]) := hd'
        have key := not_ediv (a := a) hb
        rw [← key.1, ← key.2]
        generalize hq : (-a - 1) / b = q at *
        generalize hr : (-a - 1) % b = r at *
        refine runF_ret (Γ := put (put (bindPs [] ["a", "b"] [.int a, .int b]) "q" (.int q)) "r" (.int r)) (Ω := []) rfl ?_
        refine evSs_ret ?_
        refine (evS_IfH (c := false) rfl (testD_of (d := .bool (decide (b = 0))) (by kernel_rfl) (by show some (decide _) = _; rw [decide_eq_false (by omega)]))).trans ?_
        refine evSs_ret ((evS_IfH (c := false) rfl (testD_of (d := .bool (decide (b < 0))) (by kernel_rfl) (by show some (decide _) = _; rw [decide_eq_false (by omega)]))).trans ?_)
        refine evSs_ret ((evS_IfH (c := true) rfl (testD_of (d := .bool (decide (a < 0))) (by kernel_rfl) (by show some (decide _) = _; rw [decide_eq_true ha]))).trans ?_)
        refine (evSs_cons (evS_tup (d := .tup [.int q, .int r]) (Γ1 := put (put (bindPs [] ["a", "b"] [.int a, .int b]) "q" (.int q)) "r" (.int r)) rfl rfl (evE_call rfl rfl (each_cons (d := .int (-a - 1)) rfl (by kernel_rfl) (each_cons (d := .int b) (ds := []) rfl (by kernel_rfl) rfl)) (orN_new (by kernel_rfl) hd')) (by kernel_rfl))).trans ?_
        exact evSs_ret (evS_RetH rfl (by kernel_rfl))
      · exact nsd h
    · exact nsd h
  · exact nsd h
end Mine

end
section
open PySem PySem.W PyProof.Rows
set_option Elab.async false
set_option maxRecDepth 100000
set_option exponentiation.threshold 10000
namespace Mine

/-! the shade: the ones' parity -/
noncomputable def fB (b : Bool) : UInt64 := cond b 4607182418800017408 0
noncomputable def onesL : List Bool := [false, true, true, false, true, false, false, true, true, false, false, true, false, true, true, false]
noncomputable def one1 (d : Nat) : Bool := onesL.getD d false
/-- the parity of the ones in k base-16 digits -/
noncomputable def tm : Nat → Nat → Bool
  | 0, _ => false
  | k + 1, x => (one1 (x % 16)).xor (tm k (x / 16))
noncomputable def nat' (k : Int) : Nat := if 0 ≤ k then k.toNat else (-k - 1).toNat
/-- the shade's bit -/
noncomputable def par (k : Int) : Bool := tm (ndig (nat' k) 4) (nat' k)
noncomputable def onesD : List D := onesL.map fun b => D.int (cond b 1 0)
theorem ones_item : ∀ m : Nat, m < 16 → itemD (.lst onesD) (.int (m : Int)) = some (.int (cond (one1 m) 1 0))
  | 0, _ => rfl | 1, _ => rfl | 2, _ => rfl | 3, _ => rfl | 4, _ => rfl | 5, _ => rfl | 6, _ => rfl | 7, _ => rfl
  | 8, _ => rfl | 9, _ => rfl | 10, _ => rfl | 11, _ => rfl | 12, _ => rfl | 13, _ => rfl | 14, _ => rfl | 15, _ => rfl
  | n + 16, h => absurd h (by omega)
theorem intsOf_map : ∀ l : List Int, intsOf (l.map D.int) = some l
  | [] => rfl
  | i :: l => by
    show (match intsOf (l.map D.int) with
    | some l => some (i :: l)
    | none => none) = _
    rw [intsOf_map l]
theorem tm_sum : ∀ (k x : Nat), ((digs 4 k x).map fun d => (cond (one1 d.toNat) 1 0 : Int)).sum.fmod 2 = cond (tm k x) 1 0
  | 0, _ => rfl
  | k + 1, x => by
    show ((cond (one1 ((x % 2 ^ 4 : Nat) : Int).toNat) 1 0 : Int) + ((digs 4 k (x / 2 ^ 4)).map fun d => (cond (one1 d.toNat) 1 0 : Int)).sum).fmod 2 = _
    have ih := tm_sum k (x / 2 ^ 4)
    generalize ((digs 4 k (x / 2 ^ 4)).map fun d => (cond (one1 d.toNat) 1 0 : Int)).sum = s at *
    rw [Int.toNat_natCast]
    show _ = cond ((one1 (x % 16)).xor (tm k (x / 16))) 1 0
    change _ = cond (tm k (x / 16)) 1 0 at ih
    rw [Int.fmod_eq_emod_of_nonneg _ (by decide)] at ih ⊢
    cases h1 : one1 (x % 2 ^ 4) <;> cases h2 : tm k (x / 16) <;> rw [h2] at ih <;> simp only [show x % 16 = x % 2 ^ 4 from rfl, h1, cond] at ih ⊢ <;> simp at ih ⊢ <;> omega

noncomputable def dShd : Stmt := defOf "_law_shade" Pb
theorem mod_D {a b : Int} (hb : b ≠ 0) : binop .Mod (.int a) (.int b) = some (.int (a.fmod b)) := by
  exact if_neg hb
theorem addF_old {X : Nv} {tab : List (Str × Fn)} {H : Hk} {m k n : Nat} {x : Str} {ds : List D} {d : D} (h : X.N x ds = some d) : (addF X tab H m k n).N x ds = some d := by simp only [addF, h]
noncomputable def shdN : List D → Option D := fun ds => match ds with
  | [.int k] => match Nat.ble (ndig (nat' k) 4) 64 with
    | true => some (.flt (fB (par k)))
    | false => none
  | _ => none

/-- a list display that is never turned -/
noncomputable def hkKeepD (X : Nv) (q : Nat) (sc : Kd) (Γ : Gm) (Ω : Om) (ts : List Expr) (v : Expr) : Option Rs := match ts with
  | [t] => match nameOf t with
    | some x => match isLst v with
      | true => match storable sc x with
        | true => match evF (evE X q sc) Γ Ω v with
          | some (d, Γ1, Ω1) => some (.nxt, put Γ1 x d, del Ω1 x)
          | none => none
        | false => none
      | false => none
    | none => none
  | _ => none
noncomputable def hkKeep (X : Nv) (q : Nat) : Hk := ⟨fun sc Γ Ω st => match st with
  | .Assign ts v _ => hkKeepD X q sc Γ Ω ts v
  | _ => none⟩
theorem hkKeep_ok {B : Bs} {L : Nat} {X : Nv} (nv : NvOk B L X) (q : Nat) : OkS B L (hkKeep X q).S := by
  intro sc Γ Ω st r h A O0 G s env V E Q rm f hQ
  cases st <;> first | exact nsd h | skip
  case Assign ts v pos =>
    replace h : hkKeepD X q sc Γ Ω ts v = some r := h
    unfold hkKeepD at h
    split at h
    · split at h
      · rename_i x hx
        obtain ⟨p, rfl⟩ := nameOf_some hx
        split at h
        · split at h
          · rename_i hx
            split at h
            · rename_i d Γ1 Ω1 h1
              rw [← Option.some.inj h] at hQ
              exact name_assign_ok nv rm f hx h1 hQ
            · exact nsd h
          · exact nsd h
        · exact nsd h
      · exact nsd h
    · exact nsd h
theorem hkKeep_eq {X : Nv} {q : Nat} {sc : Kd} {Γ : Gm} {Ω : Om} {x : Str} {px lp p : Pos} {es : List Expr} {d : D} (hx : storable sc x = true) (h : evE X q sc Γ (.List es lp) = some d) : (hkKeep X q).S sc Γ Ω (.Assign [.Name x px] (.List es lp) p) = some (.nxt, put Γ x d, del Ω x) := by
  show (match storable sc x with
    | true => match evF (evE X q sc) Γ Ω (.List es lp) with
      | some (d, Γ1, Ω1) => some (Fl.nxt, put Γ1 x d, del Ω1 x)
      | none => none
    | false => none) = _
  rw [hx]; dsimp only; rw [evF_of h]

variable {B : Bs} {L : Nat} {C p1 p2 : Nat}
noncomputable def dRgb : Stmt := defOf "rgb_to_hsv" Pb
noncomputable def dHsv : Stmt := defOf "hsv_to_rgb" Pb
noncomputable def colT : List (Str × Fn) := [("rgb_to_hsv", fnOf dRgb), ("hsv_to_rgb", fnOf dHsv)]
noncomputable def X10 (C p1 p2 : Nat) : Nv := addF (X9 C p1 p2) colT noHk 12 9 12
theorem X10_ok (nv9 : NvOk B L (X9 C p1 p2)) (h1 : GfAt B "rgb_to_hsv" (fnOf dRgb)) (h2 : GfAt B "hsv_to_rgb" (fnOf dHsv)) : NvOk B (L + 1) (X10 C p1 p2) := by
  refine addF_ok nv9 noHk_ok fun x F h => ?_
  unfold colT at h
  simp only [look] at h
  split at h
  · rename_i e; rw [strEq_iff.mp e]; cases h; exact h1
  · split at h
    · rename_i e; rw [strEq_iff.mp e]; cases h; exact h2
    · first | exact nsd h | exact nft h | exact ntf h | cases h
noncomputable def X11 (C p1 p2 : Nat) : Nv := orN (X10 C p1 p2) (atN "_law_shade" shdN)
theorem X11_ok (nv10 : NvOk B L (X10 C p1 p2)) (hf : GfAt B "_law_shade" (fnOf dShd)) : NvOk B (L + 1) (X11 C p1 p2) := by
  refine orF_ok (H := hkKeep (X10 C p1 p2) 12) (m := 12) (k := 9) (n := 12) nv10 (hkKeep_ok nv10 12) hf fun ds d h => ?_
  unfold shdN at h
  split at h
  · rename_i k
    split at h
    · rename_i hk
      cases h
      have hk := Nat.le_of_ble_eq_true hk
      have hdig : (X10 C p1 p2).N "_int2digits" [.int (nat' k), .int (4 : Nat)] = some (.lst ((digs 4 (ndig (nat' k) 4) (nat' k)).map D.int)) :=
        addF_old (orN_old (orN_old (orN_old (orN_old (orN_old (orN_new (by kernel_rfl) (i2dN_eq (by decide) (by decide) hk)))))))
      have hs := tm_sum (ndig (nat' k) 4) (nat' k)
      refine runF_ret (Γ := put (bindPs [] ["k"] [.int k]) "ones" (.lst onesD)) (Ω := []) rfl ?_
      refine (evSs_cons (evS_hook (hkKeep_eq (d := .lst onesD) rfl (by kernel_rfl)))).trans ?_
      refine evSs_ret (evS_RetH rfl ?_)
      refine evE_bin (a := .int (cond (par k) 1 0)) (b := .flt 4607182418800017408) ?_ (by kernel_rfl) (by cases par k <;> kernel_rfl)
      have hpar : (cond (par k) 1 0 : Int) = (((digs 4 (ndig (nat' k) 4) (nat' k)).map fun d => (cond (one1 d.toNat) 1 0 : Int)).sum).fmod 2 := hs.symm
      rw [hpar]
      refine evE_bin (b := .int 2) ?_ (by kernel_rfl) (mod_D (by decide))
      refine evE_prim rfl rfl (each_cons (d := .lst ((digs 4 (ndig (nat' k) 4) (nat' k)).map fun d => D.int (cond (one1 d.toNat) 1 0))) (ds := []) rfl ?_ rfl) (by kernel_rfl) (pr := (.sum, .builtin "sum")) (by kernel_rfl) ?_
      · refine evE_comp (d := .lst ((digs 4 (ndig (nat' k) 4) (nat' k)).map D.int)) rfl rfl (by kernel_rfl) (evE_call rfl rfl (each_cons (d := .int (nat' k)) rfl ?_ (each_cons (d := .int (4 : Nat)) (ds := []) rfl (by kernel_rfl) rfl)) hdig) rfl ?_ ?_
        · refine evE_if (c := .bool (decide (0 ≤ k))) (v := decide (0 ≤ k)) (by kernel_rfl) rfl ?_
          unfold nat'
          by_cases hk0 : 0 ≤ k
          · rw [decide_eq_true hk0, if_pos hk0, Int.toNat_of_nonneg hk0]; kernel_rfl
          · rw [decide_eq_false hk0, if_neg hk0, Int.toNat_of_nonneg (by omega)]; kernel_rfl
        · refine compL_all fun d hd => ?_
          obtain ⟨h0, h1⟩ := digs_bound 4 _ _ d hd
          obtain ⟨m, rfl⟩ := Int.eq_ofNat_of_zero_le h0
          refine ⟨put (freeG (put (bindPs [] ["k"] [.int k]) "ones" (.lst onesD)) [("digit", NameKind.local), ("ones", NameKind.free)]) "digit" (.int m), by kernel_rfl, by kernel_rfl, ?_⟩
          exact compI_nil (evE_item (a := .lst onesD) (b := .int m) rfl (by kernel_rfl) (by kernel_rfl) (ones_item m (by omega)))
        · rw [List.length_map, digs_len]; exact Nat.ble_eq_true_of_le (by omega)
      · have e : ((digs 4 (ndig (nat' k) 4) (nat' k)).map fun d => D.int (cond (one1 d.toNat) 1 0)) = ((digs 4 (ndig (nat' k) 4) (nat' k)).map fun d : Int => (cond (one1 d.toNat) 1 0 : Int)).map D.int := by rw [List.map_map]; rfl
        rw [e]
        show (match intsOf (List.map D.int ((digs 4 (ndig (nat' k) 4) (nat' k)).map fun d : Int => (cond (one1 d.toNat) 1 0 : Int))) with
          | some l => some (D.int l.sum)
          | none => none) = _
        rw [intsOf_map]
    · first | exact nsd h | exact nft h | exact ntf h | cases h
  · first | exact nsd h | exact nft h | exact ntf h | cases h
end Mine

end
section
open PySem PySem.W PyProof.Rows
set_option Elab.async false
set_option maxRecDepth 100000
set_option exponentiation.threshold 10000
namespace Mine

theorem item_lst {xs : List D} {i : Nat} {d : D} (h : xs[i]? = some d) (hi : i ≤ 100000) : itemD (.lst xs) (.int (i : Int)) = some d := by
  unfold itemD
  dsimp only
  rw [if_pos ⟨Int.natCast_nonneg _, by omega⟩, Int.toNat_natCast, h]
theorem pick_map {α β : Type} (f : α → β) (xs : List α) (lo hi st : Option Int) : pick (xs.map f) lo hi st = (pick xs lo hi st).map f := by
  unfold pick
  rw [List.length_map]
  generalize sliceRange _ _ _ = l
  induction l with
  | nil => rfl
  | cons i l ih =>
    cases h : xs[i]? with
    | none => rw [List.filterMap_cons_none (by rw [List.getElem?_map, h]; rfl), List.filterMap_cons_none h, ih]
    | some x => rw [List.filterMap_cons_some (by rw [List.getElem?_map, h]; rfl), List.filterMap_cons_some h, ih]; rfl
theorem slice_lst {xs : List D} {lo hi st : Option Int} (h0 : st ≠ some 0) (h : xs.length ≤ 1000) : sliceD (.lst xs) lo hi st = some (.lst (pick xs lo hi st)) := by
  unfold sliceD
  dsimp only
  rw [if_neg]
  rintro (q | q)
  · exact h0 q
  · rw [sizeLine_eq] at q; omega
theorem range_iter {n : Nat} (h : n ≤ 1000) : iterD (.rng 0 n) = some ((List.range n).map fun (i : Nat) => D.int (i : Int)) := by
  show (if Builtin.Range.small 0 (n : Int) 1 = true then some ((List.range ((n : Int) - 0).toNat).map fun (i : Nat) => D.int (0 + (i : Int))) else none) = _
  rw [if_pos]
  · rw [show ((n : Int) - 0).toNat = n by omega]
    simp only [Int.zero_add]
  · exact small_one (by omega) (by omega) (by omega) (by omega)
theorem range_iter2 {a b : Nat} (h : b ≤ 1000) (hab : a ≤ b) : iterD (.rng a b) = some ((List.range (b - a)).map fun (i : Nat) => D.int ((a + i : Nat) : Int)) := by
  show (if Builtin.Range.small (a : Int) (b : Int) 1 = true then some ((List.range ((b : Int) - a).toNat).map fun (i : Nat) => D.int ((a : Int) + (i : Int))) else none) = _
  rw [if_pos]
  · rw [Int.toNat_sub]
    rfl
  · exact small_one (by omega) (by omega) (by omega) (by omega)

/-! what the law makes of a run -/
noncomputable def evens {α : Type} : List α → List α
  | [] => []
  | [x] => [x]
  | x :: _ :: r => x :: evens r
theorem evens_len {α : Type} : ∀ l : List α, (evens l).length ≤ l.length
  | [] => Nat.le_refl _
  | [_] => Nat.le_refl _
  | x :: y :: r => by have := evens_len r; simp only [evens, List.length_cons]; omega
noncomputable def bD (b : Bool) : D := .int (cond b 1 0)
noncomputable def likeL (run : List Bool) : List Nat := (List.range (run.length - 1)).filter fun i => run.getD i false == run.getD (i + 1) false
noncomputable def lowR (run : List Bool) : Nat := match likeL run with
  | [] => 0
  | i :: _ => (i + 1) % 2
noncomputable def nextR (run : List Bool) : List Bool := match lowR run with
  | 0 => evens run
  | _ => (!run.getD 0 false) :: evens run.tail
noncomputable def restR : Nat → List Bool → Nat
  | 0, _ => 0
  | k + 1, run => lowR run + 2 * restR k (nextR run)
theorem lowR_lt (run : List Bool) : lowR run = 0 ∨ lowR run = 1 := by
  unfold lowR
  split
  · exact .inl rfl
  · omega
theorem pick_even : ∀ l : List Bool, l.length ≤ 10 → pick l (some 0) none (some 2) = evens l
  | [], _ => by kernel_rfl | [a], _ => by kernel_rfl | [a, b], _ => by kernel_rfl | [a, b, c], _ => by kernel_rfl | [a, b, c, d], _ => by kernel_rfl | [a, b, c, d, e], _ => by kernel_rfl
  | [a, b, c, d, e, f], _ => by kernel_rfl | [a, b, c, d, e, f, g], _ => by kernel_rfl | [a, b, c, d, e, f, g, h], _ => by kernel_rfl | [a, b, c, d, e, f, g, h, i], _ => by kernel_rfl | [a, b, c, d, e, f, g, h, i, j], _ => by kernel_rfl
  | a :: b :: c :: d :: e :: f :: g :: h :: i :: j :: k :: l, q => absurd q (by simp only [List.length_cons]; omega)
theorem pick_odd : ∀ l : List Bool, l.length ≤ 10 → pick l (some 1) none (some 2) = evens l.tail
  | [], _ => by kernel_rfl | [a], _ => by kernel_rfl | [a, b], _ => by kernel_rfl | [a, b, c], _ => by kernel_rfl | [a, b, c, d], _ => by kernel_rfl | [a, b, c, d, e], _ => by kernel_rfl
  | [a, b, c, d, e, f], _ => by kernel_rfl | [a, b, c, d, e, f, g], _ => by kernel_rfl | [a, b, c, d, e, f, g, h], _ => by kernel_rfl | [a, b, c, d, e, f, g, h, i], _ => by kernel_rfl | [a, b, c, d, e, f, g, h, i, j], _ => by kernel_rfl
  | a :: b :: c :: d :: e :: f :: g :: h :: i :: j :: k :: l, q => absurd q (by simp only [List.length_cons]; omega)
noncomputable def bitOf1 (d : D) : Option Bool := match intOf1 d with
  | some i => match i == 0 with
    | true => some false
    | false => match i == 1 with
      | true => some true
      | false => none
  | none => none
theorem bitOf1_eq {d : D} {b : Bool} (h : bitOf1 d = some b) : d = bD b := by
  unfold bitOf1 at h
  split at h
  · rename_i hi
    rw [intOf1_eq hi]
    split at h
    · rename_i e; rw [← Option.some.inj h, beq_iff_eq.mp e]; rfl
    · split at h
      · rename_i e; rw [← Option.some.inj h, beq_iff_eq.mp e]; rfl
      · exact nsd h
  · exact nsd h
noncomputable def bitsOf : List D → Option (List Bool)
  | [] => some []
  | x :: r => match bitOf1 x with
    | some b => match bitsOf r with
      | some l => some (b :: l)
      | none => none
    | none => none
theorem bitsOf_map : ∀ l : List Bool, bitsOf (l.map bD) = some l
  | [] => rfl
  | b :: l => by
    have e : bitOf1 (bD b) = some b := by cases b <;> rfl
    show (match bitOf1 (bD b) with
    | some b => match bitsOf (l.map bD) with
      | some l => some (b :: l)
      | none => none
    | none => none) = _
    rw [e, bitsOf_map l]
theorem bitsOf_eq : ∀ {xs : List D} {l : List Bool}, bitsOf xs = some l → xs = l.map bD
  | [], l, h => Option.some.inj h ▸ rfl
  | x :: xs, l, h => by
    unfold bitsOf at h
    split at h
    · rename_i h1
      split at h
      · rename_i h2
        rw [← Option.some.inj h, bitOf1_eq h1, bitsOf_eq h2]; rfl
      · exact nsd h
    · exact nsd h
noncomputable def rsN (k : Nat) (st : Int) : List D → Option D := fun ds => match two lstOf1 intOf1 ds with
  | some p => match p.2 == st with
    | true => match bitsOf p.1 with
      | some l => match Nat.ble 1 l.length && Nat.ble l.length 10 with
        | true => some (.int (restR k l))
        | false => none
      | none => none
    | false => none
  | none => none
theorem rsN_inv {k : Nat} {st : Int} {ds : List D} {d : D} (h : rsN k st ds = some d) : ∃ l : List Bool, ds = [.lst (l.map bD), .int st] ∧ d = .int (restR k l) ∧ 1 ≤ l.length ∧ l.length ≤ 10 := by
  unfold rsN at h
  split at h
  · rename_i p hp
    obtain ⟨a, b, rfl, e1, e2⟩ := two_eq hp
    split at h
    · rename_i h1
      split at h
      · rename_i l h2
        split at h
        · rename_i h3
          rw [Bool.and_eq_true] at h3
          exact ⟨l, by rw [lstOf1_eq e1, intOf1_eq e2, bitsOf_eq h2, beq_iff_eq.mp h1], (Option.some.inj h).symm, Nat.le_of_ble_eq_true h3.1, Nat.le_of_ble_eq_true h3.2⟩
        · exact nsd h
      · exact nsd h
    · exact nsd h
  · exact nsd h
theorem rsN_eq {k : Nat} {st : Int} {l : List Bool} (h1 : 1 ≤ l.length) (h2 : l.length ≤ 10) : rsN k st [.lst (l.map bD), .int st] = some (.int (restR k l)) := by
  show (match st == st with
    | true => match bitsOf (l.map bD) with
      | some l => match Nat.ble 1 l.length && Nat.ble l.length 10 with
        | true => some (D.int (restR k l))
        | false => none
      | none => none
    | false => none) = _
  rw [beq_self_eq_true, bitsOf_map]
  dsimp only
  rw [Nat.ble_eq_true_of_le h1, Nat.ble_eq_true_of_le h2]; rfl

noncomputable def dRst : Stmt := defOf "_law_rest" Pb
theorem getD_some {run : List Bool} {i : Nat} (h : i < run.length) : (run.map bD)[i]? = some (bD (run.getD i false)) := by
  rw [List.getElem?_map, List.getElem?_eq_getElem h, List.getD_eq_getElem?_getD, List.getElem?_eq_getElem h]; rfl
theorem eq_bits (a b : Bool) : cmpD .Eq (bD a) (bD b) = some (a == b) := by cases a <;> cases b <;> rfl
noncomputable def rstG (run : List Bool) (st : Int) : Gm := put (put (bindPs [] ["run", "step"] [.lst (run.map bD), .int st]) "like" (.lst ((likeL run).map fun (i : Nat) => D.int (i : Int)))) "low" (.int (lowR run))
noncomputable def rst1 : Expr := asV ((stBody dRst).getD 1 (.Pass default))
noncomputable def rst2 : Expr := asV ((stBody dRst).getD 2 (.Pass default))
noncomputable def rst3 : Expr := asV ((stBody dRst).getD 3 (.Pass default))
noncomputable def rsc : Kd := (stScope dRst).names
section
variable {X : Nv} {k : Nat} {st st2 : Int} {run : List Bool}
theorem rst_like (hX : ∀ ds, X.N "len" ds = none ∧ X.N "range" ds = none) (h0 : 1 ≤ run.length) (h1 : run.length ≤ 10) : evE X 12 rsc (bindPs [] ["run", "step"] [.lst (run.map bD), .int st]) rst1 = some (.lst ((likeL run).map fun (i : Nat) => D.int (i : Int))) := by
  have hlen : ((run.map bD).length : Int) < 2 ^ 63 := by rw [List.length_map]; omega
  refine evE_comp (d := .rng 0 ((run.length - 1 : Nat) : Int)) rfl rfl (by kernel_rfl) (evE_prim rfl rfl (each_cons (d := .int ((run.length : Int) - 1)) (ds := []) rfl (evE_bin (a := .int run.length) (b := .int 1) (evE_prim rfl rfl (each_cons (d := .lst (run.map bD)) (ds := []) rfl (by kernel_rfl) rfl) (hX _).1 (pr := (.len, .builtin "len")) (by kernel_rfl) ((len_D hlen).trans (by rw [List.length_map]))) (by kernel_rfl) rfl) rfl) (hX _).2 (pr := (.range, .type "range")) (by kernel_rfl) ?_) (range_iter (by omega)) ?_ ?_
  · show some (D.rng 0 ((run.length : Int) - 1)) = _
    rw [show (run.length : Int) - 1 = ((run.length - 1 : Nat) : Int) by omega]
  · refine compL_map (p := fun i : Nat => run.getD i false == run.getD (i + 1) false) (g := fun i : Nat => D.int (i : Int)) fun i hi => ?_
    have hi := List.mem_range.mp hi
    refine ⟨put (freeG (bindPs [] ["run", "step"] [.lst (run.map bD), .int st]) [("i", NameKind.local), ("run", NameKind.free)]) "i" (.int i), by kernel_rfl, ?_, ?_⟩
    · refine testsD_one (evE_cmp1 (a := bD (run.getD i false)) (b := bD (run.getD (i + 1) false)) rfl ?_ ?_ (eq_bits _ _))
      · exact evE_item (a := .lst (run.map bD)) (b := .int i) rfl (by kernel_rfl) (by kernel_rfl) (item_lst (getD_some (by omega)) (by omega))
      · exact evE_item (a := .lst (run.map bD)) (b := .int ((i + 1 : Nat) : Int)) rfl (by kernel_rfl) (by kernel_rfl) (item_lst (getD_some (by omega)) (by omega))
    · intro _
      exact compI_nil (by kernel_rfl)
  · rw [List.length_map]
    exact Nat.ble_eq_true_of_le (Nat.le_trans (List.length_filter_le _ _) (by rw [List.length_range]; omega))
theorem rst_low (h1 : run.length ≤ 10) : evE X 12 rsc (put (bindPs [] ["run", "step"] [.lst (run.map bD), .int st]) "like" (.lst ((likeL run).map fun (i : Nat) => D.int (i : Int)))) rst2 = some (.int (lowR run)) := by
  unfold lowR
  cases hl : likeL run with
  | nil => kernel_rfl
  | cons i l =>
    have hlen : (List.map (fun (i : Nat) => D.int (i : Int)) (i :: l)).length ≤ 1000 := by
      rw [← hl, List.length_map]
      exact Nat.le_trans (List.length_filter_le _ _) (by rw [List.length_range]; omega)
    refine evE_if (c := .lst ((i :: l).map fun (i : Nat) => D.int (i : Int))) (v := true) (by kernel_rfl) (truth_lst (by omega)) ?_
    refine (evE_bin (a := .int ((i : Int) + 1)) (b := .int 2) (by kernel_rfl) (by kernel_rfl) (mod_D (by decide))).trans ?_
    rw [Int.fmod_eq_emod_of_nonneg _ (by decide), show ((i : Int) + 1) % 2 = (((i + 1) % 2 : Nat) : Int) from rfl]
theorem addL_D {xs ys : List D} (h : xs.length + ys.length ≤ 1000) : binop .Add (.lst xs) (.lst ys) = some (.lst (xs ++ ys)) := by
  show (if xs.length + ys.length ≤ sizeLine then some (D.lst (xs ++ ys)) else none) = _
  rw [if_pos (by rw [sizeLine_eq]; omega)]
theorem rst_ret (h2 : binop .FloorDiv (.int st) (.int 2) = some (.int st2)) (h0 : 1 ≤ run.length) (h1 : run.length ≤ 10)
    (h : X.N "_law_rest" [.lst ((nextR run).map bD), .int st2] = some (.int (restR k (nextR run)))) : evE X 12 rsc (rstG run st) rst3 = some (.int (restR (k + 1) run)) := by
  have arg : evE X 9 rsc (rstG run st) (argE 0 (boR (boR rst3))) = some (.lst ((nextR run).map bD)) := by
    have item : evE X 6 rsc (rstG run st) (argE 0 (boL (boL (argE 0 (boR (boR rst3)))))) = some (bD (!run.getD 0 false)) := by
      refine (evE_bin (a := .int 1) (b := bD (run.getD 0 false)) (by kernel_rfl) (evE_item (a := .lst (run.map bD)) (b := .int (0 : Nat)) rfl (by kernel_rfl) (by kernel_rfl) (item_lst (getD_some (by omega)) (by omega))) (d := bD (!run.getD 0 false)) ?_)
      cases run.getD 0 false <;> rfl
    rcases lowR_lt run with e | e
    · have en : nextR run = evens run := by unfold nextR; rw [e]; rfl
      rw [en]
      unfold rstG at item ⊢
      rw [e] at item ⊢
      refine (evE_bin (a := .lst []) (b := .lst ((evens run).map bD)) (evE_bin (a := .lst [bD (!run.getD 0 false)]) (b := .int (0 : Nat)) (evE_lst (each_cons (ds := []) rfl item rfl) rfl) (by kernel_rfl) (by kernel_rfl)) (evE_slice (a := .lst (run.map bD)) (l := some (0 : Nat)) (h := none) (q := some 2) (by kernel_rfl) (by kernel_rfl) rfl (by kernel_rfl) ((slice_lst (by decide) (by rw [List.length_map]; omega)).trans (by rw [pick_map]; exact congrArg (fun l => some (D.lst (List.map bD l))) (pick_even run h1)))) (addL_D ?_)).trans rfl
      have := evens_len run
      have := evens_len run.tail
      rw [List.length_tail] at this
      simp only [List.length_map, List.length_cons, List.length_nil]
      omega
    · have en : nextR run = (!run.getD 0 false) :: evens run.tail := by unfold nextR; rw [e]; rfl
      rw [en]
      unfold rstG at item ⊢
      rw [e] at item ⊢
      refine (evE_bin (a := .lst [bD (!run.getD 0 false)]) (b := .lst ((evens run.tail).map bD)) (evE_bin (a := .lst [bD (!run.getD 0 false)]) (b := .int (1 : Nat)) (evE_lst (each_cons (ds := []) rfl item rfl) rfl) (by kernel_rfl) (by kernel_rfl)) (evE_slice (a := .lst (run.map bD)) (l := some (1 : Nat)) (h := none) (q := some 2) (by kernel_rfl) (by kernel_rfl) rfl (by kernel_rfl) ((slice_lst (by decide) (by rw [List.length_map]; omega)).trans (by rw [pick_map]; exact congrArg (fun l => some (D.lst (List.map bD l))) (pick_odd run h1)))) (addL_D ?_)).trans rfl
      have := evens_len run
      have := evens_len run.tail
      rw [List.length_tail] at this
      simp only [List.length_map, List.length_cons, List.length_nil]
      omega
  refine (evE_bin (a := .int (lowR run)) (b := .int (2 * (restR k (nextR run) : Int))) (by kernel_rfl) (evE_bin (a := .int 2) (b := .int (restR k (nextR run))) (by kernel_rfl) (evE_call rfl rfl (each_cons (d := .lst ((nextR run).map bD)) rfl arg (each_cons (d := .int st2) (ds := []) rfl (evE_bin (a := .int st) (b := .int 2) (by kernel_rfl) (by kernel_rfl) h2) rfl)) h) (by kernel_rfl)) rfl).trans ?_
  show some (D.int ((lowR run : Int) + 2 * (restR k (nextR run) : Int))) = some (D.int ((lowR run + 2 * restR k (nextR run) : Nat) : Int))
  rw [Int.natCast_add, Int.natCast_mul]; rfl
theorem rest_run (hX : ∀ ds, X.N "len" ds = none ∧ X.N "range" ds = none) (hst : (st == 1) = false) (h2 : binop .FloorDiv (.int st) (.int 2) = some (.int st2)) (h0 : 1 ≤ run.length) (h1 : run.length ≤ 10)
    (h : X.N "_law_rest" [.lst ((nextR run).map bD), .int st2] = some (.int (restR k (nextR run)))) : runF (evS noHk (evE X 12) 9 12) (fnOf dRst) [.lst (run.map bD), .int st] = some (.int (restR (k + 1) run)) := by
  refine runF_ret (Γ := rstG run st) (Ω := []) rfl ?_
  refine (evSs_cons (Γ1 := bindPs [] ["run", "step"] [.lst (run.map bD), .int st]) (Ω1 := []) ((evS_IfH (c := false) rfl (testD_of (d := .bool (st == 1)) (by kernel_rfl) (by rw [hst]; rfl))).trans rfl)).trans ?_
  refine (evSs_cons (evS_asg rfl rfl rfl (rst_like hX h0 h1))).trans ?_
  refine (evSs_cons (evS_asg rfl rfl rfl (rst_low h1))).trans ?_
  exact evSs_ret (evS_RetH rfl (rst_ret h2 h0 h1 h))
theorem rest_one {X : Nv} : runF (evS noHk (evE X 12) 9 12) (fnOf dRst) [.lst (run.map bD), .int 1] = some (.int (restR 0 run)) := by kernel_rfl
theorem next_len (h0 : 1 ≤ run.length) (h1 : run.length ≤ 10) : 1 ≤ (nextR run).length ∧ (nextR run).length ≤ 10 := by
  unfold nextR
  have e1 := evens_len run
  have e2 := evens_len run.tail
  rw [List.length_tail] at e2
  split
  · refine ⟨?_, Nat.le_trans e1 h1⟩
    match run, h0 with
    | [x], _ => exact Nat.le_refl _
    | x :: y :: r, _ => exact Nat.le_add_left 1 _
  · exact ⟨Nat.le_add_left 1 _, Nat.le_trans (Nat.succ_le_succ e2) (Nat.le_trans (Nat.le_of_eq (Nat.sub_add_cancel h0)) h1)⟩
end
noncomputable def X12 (C p1 p2 : Nat) : Nv := orN (X11 C p1 p2) (atN "_law_rest" (rsN 0 1))
noncomputable def X13 (C p1 p2 : Nat) : Nv := orN (X12 C p1 p2) (atN "_law_rest" (rsN 1 2))
noncomputable def X14 (C p1 p2 : Nat) : Nv := orN (X13 C p1 p2) (atN "_law_rest" (rsN 2 4))

variable {B : Bs} {L : Nat} {C p1 p2 : Nat}
theorem X12_ok (nv : NvOk B L (X11 C p1 p2)) (hf : GfAt B "_law_rest" (fnOf dRst)) : NvOk B (L + 1) (X12 C p1 p2) := by
  refine orF_ok (H := noHk) (m := 12) (k := 9) (n := 12) nv noHk_ok hf fun ds d h => ?_
  obtain ⟨l, rfl, rfl, _, _⟩ := rsN_inv h
  exact rest_one
theorem X13_ok (nv : NvOk B L (X12 C p1 p2)) (hf : GfAt B "_law_rest" (fnOf dRst)) : NvOk B (L + 1) (X13 C p1 p2) := by
  refine orF_ok (H := noHk) (m := 12) (k := 9) (n := 12) nv noHk_ok hf fun ds d h => ?_
  obtain ⟨l, rfl, rfl, h0, h1⟩ := rsN_inv h
  obtain ⟨n0, n1⟩ := next_len h0 h1
  exact rest_run (fun ds => ⟨by kernel_rfl, by kernel_rfl⟩) (by decide) (st2 := 1) (by kernel_rfl) h0 h1 (orN_new (by kernel_rfl) (rsN_eq n0 n1))
theorem X14_ok (nv : NvOk B L (X13 C p1 p2)) (hf : GfAt B "_law_rest" (fnOf dRst)) : NvOk B (L + 1) (X14 C p1 p2) := by
  refine orF_ok (H := noHk) (m := 12) (k := 9) (n := 12) nv noHk_ok hf fun ds d h => ?_
  obtain ⟨l, rfl, rfl, h0, h1⟩ := rsN_inv h
  obtain ⟨n0, n1⟩ := next_len h0 h1
  exact rest_run (fun ds => ⟨by kernel_rfl, by kernel_rfl⟩) (by decide) (st2 := 2) (by kernel_rfl) h0 h1 (orN_new (by kernel_rfl) (rsN_eq n0 n1))
end Mine

end
section
open PySem PySem.W PyProof.Rows
set_option Elab.async false
set_option maxRecDepth 100000
namespace Mine

noncomputable abbrev strOf (l : List Nat) : Str := ⟨l.toArray⟩
theorem flatC_one : ∀ l : List Nat, ((l.map fun c => #[c]).map Array.toList).flatten = l
  | [] => rfl
  | x :: l => by
    have ih := flatC_one l
    simp only [List.map_cons, List.flatten_cons] at ih ⊢
    rw [ih]; rfl
theorem placed_one {l : List Nat} {f : Nat → Nat → List Nat} {h : Nat → Nat} (H : ∀ i c, l[i]? = some c → f i c = [h c]) : placed (strOf l) f = (l.map h).toArray := by
  unfold placed
  have e : ((strOf l).cps.mapIdx fun i c => (f i c).toArray) = ((l.map h).map fun c => #[c]).toArray := by
    apply Array.ext
    · simp
    · intro i h1 h2
      simp at h1 h2 ⊢
      rw [H i l[i] (List.getElem?_eq_getElem h1)]
  rw [e]
  apply Array.ext'
  rw [Array.toList_flatten]
  exact flatC_one (l.map h)
/-- six letters -/
noncomputable def Ltr (l : List Nat) : Prop := ∀ c ∈ l, 97 ≤ c ∧ c ≤ 102
theorem six {P : Nat → Prop} (h1 : P 97) (h2 : P 98) (h3 : P 99) (h4 : P 100) (h5 : P 101) (h6 : P 102) (c : Nat) (h : 97 ≤ c ∧ c ≤ 102) : P c := by
  obtain ⟨h, g⟩ := h
  rcases Nat.eq_or_lt_of_le h with e | h
  · exact e ▸ h1
  rcases Nat.eq_or_lt_of_le h with e | h
  · exact e ▸ h2
  rcases Nat.eq_or_lt_of_le h with e | h
  · exact e ▸ h3
  rcases Nat.eq_or_lt_of_le h with e | h
  · exact e ▸ h4
  rcases Nat.eq_or_lt_of_le h with e | h
  · exact e ▸ h5
  rcases Nat.eq_or_lt_of_le h with e | h
  · exact e ▸ h6
  exact absurd g (Nat.not_le.mpr h)
theorem up1 : ∀ c : Nat, 97 ≤ c ∧ c ≤ 102 → Unicode.upperOf c = [c - 32] := six (by kernel_rfl) (by kernel_rfl) (by kernel_rfl) (by kernel_rfl) (by kernel_rfl) (by kernel_rfl)
theorem lo1 : ∀ c : Nat, 97 ≤ c ∧ c ≤ 102 → Unicode.lowerOf c = [c] ∧ Unicode.lowerOf (c - 32) = [c] ∧ (c == 0x3A3) = false ∧ (c - 32 == 0x3A3) = false :=
  six ⟨by kernel_rfl, by kernel_rfl, rfl, rfl⟩ ⟨by kernel_rfl, by kernel_rfl, rfl, rfl⟩ ⟨by kernel_rfl, by kernel_rfl, rfl, rfl⟩ ⟨by kernel_rfl, by kernel_rfl, rfl, rfl⟩ ⟨by kernel_rfl, by kernel_rfl, rfl, rfl⟩ ⟨by kernel_rfl, by kernel_rfl, rfl, rfl⟩
theorem upper_l {l : List Nat} (h : Ltr l) : Txt.upper (strOf l) = strOf (l.map (· - 32)) := by
  unfold Txt.upper
  rw [placed_one (h := (· - 32)) fun i c e => up1 c (h c (List.mem_of_getElem? e))]
theorem lower_l {l : List Nat} (h : Ltr l) : Txt.lower (strOf l) = strOf l := by
  unfold Txt.lower
  rw [placed_one (h := id) fun i c e => ?_, List.map_id]
  obtain ⟨h1, _, h3, _⟩ := lo1 c (h c (List.mem_of_getElem? e))
  unfold Unicode.lowerAt
  rw [show (strOf l).cps[i]? = some c by simpa using e]
  dsimp only
  rw [h3]; exact h1
theorem lower_u {l : List Nat} (h : Ltr l) : Txt.lower (strOf (l.map (· - 32))) = strOf l := by
  unfold Txt.lower
  rw [placed_one (h := (· + 32)) fun i c e => ?_, List.map_map]
  · congr 2
    exact List.map_congr_left (g := id) (fun c hc => by have := h c hc; simp only [Function.comp, id]; omega) |>.trans (List.map_id l)
  · obtain ⟨c', hc', rfl⟩ := List.mem_map.mp (List.mem_of_getElem? e)
    obtain ⟨_, h2, _, h4⟩ := lo1 c' (h c' hc')
    have := h c' hc'
    unfold Unicode.lowerAt
    rw [show (strOf (l.map (· - 32))).cps[i]? = some (c' - 32) by simpa using e]
    dsimp only
    rw [h4, show c' - 32 + 32 = c' by omega]; exact h2
theorem safe_l {l : List Nat} (h : ∀ c ∈ l, 32 ≤ c ∧ c ≤ 126) (hl : l.length ≤ 1000) : Safe (strOf l) = true := by
  unfold Safe
  rw [Bool.and_eq_true]
  refine ⟨Nat.ble_eq_true_of_le hl, List.all_eq_true.mpr fun c hc => ?_⟩
  obtain ⟨h1, h2⟩ := h c hc
  rw [Nat.ble_eq_true_of_le h1, Nat.ble_eq_true_of_le h2]; rfl
theorem iter_l {l : List Nat} (h : Ltr l) : iterD (.str (strOf l)) = some (l.map fun c => .str (strOf [c])) := by
  show (if ((strOf l).cps.all (· < 128)) = true then some ((strOf l).cps.toList.map fun c => D.str ⟨#[c]⟩) else none) = _
  rw [if_pos]
  rw [Array.all_eq_true_iff_forall_mem]
  intro c hc
  have := h c (by simpa using hc)
  exact decide_eq_true (by omega)
theorem idx_one {n p q : Nat} (h : p ≤ q) (hq : q ≤ n) : Builtin.Str.strSliceIndices (some p) (some q) 1 n = (List.range (q - p)).map (p + ·) := by
  unfold Builtin.Str.strSliceIndices sliceRange
  simp only [show (1 : Int) > 0 by decide, if_true]
  simp only [Int.not_lt.mpr (Int.natCast_nonneg p), Int.not_lt.mpr (Int.natCast_nonneg q), if_false]
  rw [Int.min_eq_left (Int.ofNat_le.mpr (Nat.le_trans h hq)), Int.min_eq_left (Int.ofNat_le.mpr hq), Int.max_eq_right (Int.natCast_nonneg p), Int.max_eq_right (Int.natCast_nonneg q)]
  have e3 : (if (p : Int) < (q : Int) then ((q : Int) - p + 1 - 1) / 1 else 0).toNat = q - p := by
    rw [Int.ediv_one, Int.add_sub_cancel]
    split
    · exact Int.toNat_sub q p
    · rename_i hh; exact (Nat.sub_eq_zero_of_le (Int.ofNat_le.mp (Int.not_lt.mp hh))).symm
  rw [e3]
  exact List.map_congr_left fun k _ => by rw [Int.one_mul]; rfl
theorem idx_none {n q : Nat} (hq : q ≤ n) : Builtin.Str.strSliceIndices none (some q) 1 n = List.range q := by
  have := idx_one (n := n) (Nat.zero_le q) hq
  simp only [Nat.sub_zero, Nat.zero_add, List.map_id'] at this
  rw [← this]
  unfold Builtin.Str.strSliceIndices
  simp only [show (1 : Int) > 0 by decide, if_true]
  rw [show (if ((0 : Nat) : Int) < 0 then ((0 : Nat) : Int) + (n : Int) else ((0 : Nat) : Int)) = 0 by rw [if_neg (by omega)]; rfl, show max 0 (min (0 : Int) (n : Int)) = 0 by omega]
theorem slice_l {l : List Nat} {p q : Nat} (h : p ≤ q) (hq : q ≤ l.length) (hne : q - p ≠ l.length) : Txt.slice (strOf l) (some p) (some q) = strOf ((List.range (q - p)).filterMap fun i => l[p + i]?) := by
  unfold Txt.slice
  rw [show (strOf l).length = l.length from rfl, idx_one h hq, if_neg]
  · rw [List.filterMap_map]
    congr 1
    simp [Function.comp_def]
  · rw [List.length_map, List.length_range]
    simp [hne]
theorem slice_l0 {l : List Nat} {q : Nat} (hq : q ≤ l.length) (hne : q ≠ l.length) : Txt.slice (strOf l) none (some q) = strOf ((List.range q).filterMap fun i => l[i]?) := by
  unfold Txt.slice
  rw [show (strOf l).length = l.length from rfl, idx_none hq, if_neg]
  · simp
  · rw [List.length_range]
    simp [hne]
end Mine

end
section
open PySem PySem.W PyProof.Rows
set_option Elab.async false
set_option maxRecDepth 100000
namespace Mine

noncomputable def hueC : Bool → Bool → Bool → UInt64
  | true, false, false => 0
  | true, true, false => 4595172819793696085
  | false, true, false => 4599676419421066581
  | false, true, true => 4602678819172646912
  | false, false, true => 4604180019048437077
  | true, false, true => 4605681218924227243
  | _, _, _ => 0
noncomputable def letC : Bool → Bool → Bool → Nat
  | true, false, false => 97
  | true, true, false => 98
  | false, true, false => 99
  | false, true, true => 100
  | false, false, true => 101
  | true, false, true => 102
  | _, _, _ => 97
noncomputable def Nd (x y z : Bool) : Prop := ¬ (x = y ∧ y = z)
theorem nd_cases {P : Bool → Bool → Bool → Prop} (h1 : P true false false) (h2 : P true true false) (h3 : P false true false) (h4 : P false true true) (h5 : P false false true) (h6 : P true false true) : ∀ x y z, Nd x y z → P x y z
  | true, true, true, h => absurd ⟨rfl, rfl⟩ h
  | false, false, false, h => absurd ⟨rfl, rfl⟩ h
  | true, false, false, _ => h1
  | true, true, false, _ => h2
  | false, true, false, _ => h3
  | false, true, true, _ => h4
  | false, false, true, _ => h5
  | true, false, true, _ => h6
theorem letC_ltr : ∀ x y z, 97 ≤ letC x y z ∧ letC x y z ≤ 102 := by intro x y z; cases x <;> cases y <;> cases z <;> decide

section
variable {X : Nv} {n m : Nat} {sc : Kd} {Γ : Gm} {ev : Expr → Option D}
theorem evE_or3 {a b c : Expr} {p : Pos} {v : Bool} (h1 : evE X n sc Γ a = some (.bool false)) (h2 : evE X n sc Γ b = some (.bool false)) (h3 : evE X n sc Γ c = some (.bool v)) : evE X (n + 1) sc Γ (.BoolOp .Or [a, b, c] p) = some (.bool v) := by
  show boolD (evE X n sc Γ) .Or [a, b, c] = _
  unfold boolD
  rw [h1]; dsimp only [truth]
  unfold boolD
  rw [h2]; dsimp only [truth]
  unfold boolD
  rw [h3]
end
theorem pick_one {α : Type} {xs : List α} {p q : Nat} (h : p ≤ q) (hq : q ≤ xs.length) : pick xs (some p) (some q) none = (List.range (q - p)).filterMap fun i => xs[p + i]? := by
  unfold pick
  have e : sliceRange (sliceBounds (some (p : Int)) (some (q : Int)) none xs.length).1 (sliceBounds (some (p : Int)) (some (q : Int)) none xs.length).2.1 (sliceBounds (some (p : Int)) (some (q : Int)) none xs.length).2.2 = Builtin.Str.strSliceIndices (some p) (some q) 1 xs.length := rfl
  rw [e, idx_one h hq, List.filterMap_map]
  rfl
theorem rget {α : Type} {f : Nat → α} {n i : Nat} (h : i < n) : ((List.range n).map f)[i]? = some (f i) := by
  rw [List.getElem?_map, List.getElem?_range h]; rfl
theorem addS_D {x y : Str} (h : x.length + y.length ≤ 1000) : inpOp .Add (.str x) (.str y) = some (.str (x ++ y)) := by
  show (if x.length + y.length ≤ sizeLine then some (D.str (x ++ y)) else none) = _
  rw [if_pos (by rw [sizeLine_eq]; omega)]

/-! the strip -/
noncomputable def shD (S : Nat → Bool) (n : Nat) : List D := (List.range n).map fun k => D.flt (fB (S k))
noncomputable def chS (S : Nat → Bool) (i : Nat) : Nat := letC (S (i + 3)) (S (i + 4)) (S (i + 5))
noncomputable def stripL (S : Nat → Bool) (m : Nat) : List Nat := (List.range m).map (chS S)
theorem item_sh {S : Nat → Bool} {n k : Nat} (h : k < n) (hn : n ≤ 1000) : itemD (.lst (shD S n)) (.int (k : Int)) = some (.flt (fB (S k))) := item_lst (rget h) (by omega)
theorem fm3 {α : Type} {g : Nat → Option α} {a b c : α} (h0 : g 0 = some a) (h1 : g 1 = some b) (h2 : g 2 = some c) : (List.range 3).filterMap g = [a, b, c] := by
  show List.filterMap g [0, 1, 2] = _
  rw [List.filterMap_cons_some h0, List.filterMap_cons_some h1, List.filterMap_cons_some h2]; rfl
theorem slice_sh {S : Nat → Bool} {n k : Nat} (h : k + 3 ≤ n) (hn : n ≤ 1000) : sliceD (.lst (shD S n)) (some (k : Int)) (some ((k : Int) + 3)) none = some (.lst [.flt (fB (S k)), .flt (fB (S (k + 1))), .flt (fB (S (k + 2)))]) := by
  have hl : (shD S n).length = n := by unfold shD; rw [List.length_map, List.length_range]
  rw [slice_lst (by decide) (by omega), show ((k : Int) + 3) = ((k + 3 : Nat) : Int) from rfl, pick_one (by omega) (by omega), show k + 3 - k = 3 by omega]
  exact congrArg (fun l => some (D.lst l)) (fm3 (rget (f := fun k => D.flt (fB (S k))) (by omega)) (rget (by omega)) (rget (by omega)))
noncomputable def dLaw : Stmt := defOf "law" Pb
noncomputable def lsc : Kd := (stScope dLaw).names
noncomputable def lst (i : Nat) : Stmt := (stBody dLaw).getD i (.Pass default)
noncomputable def LG (scr : List D) (st : Int) (L stp : Nat) (shs : List D) (str : Str) (tail : Gm) : Gm := [(Str.ofString "script", D.lst scr), (Str.ofString "start", .int st), (Str.ofString "length", .int L), (Str.ofString "step", .int stp), (Str.ofString "shades", .lst shs), (Str.ofString "strip", .str str)] ++ tail
noncomputable def tl1 (k : Int) (h s v : UInt64) (b : List D) : Gm := [(Str.ofString "k", .int k), (Str.ofString "hue", .flt h), (Str.ofString "share", .flt s), (Str.ofString "value", .flt v), (Str.ofString "back", .lst b)]
noncomputable def bQ (b : Bool) : D := .int (cond b 1048576 0)
variable {C p1 p2 : Nat}
noncomputable abbrev lrec (C p1 p2 : Nat) (j : Nat) : Sv := evS noHk (evE (X14 C p1 p2) 12) 9 j
noncomputable def bdyK : List Stmt := ifB (lst 5)
noncomputable def bdyE (i : Nat) : Stmt := bdyK.getD i (.Pass default)
noncomputable def augV : Stmt → Expr
  | .AugAssign _ _ v _ => v
  | _ => .Constant .none 0 default
noncomputable def orE (i : Nat) : Expr → Expr
  | .BoolOp _ es _ => es.getD i (.Constant .none 0 default)
  | e => e
noncomputable def cmpR : Expr → Expr
  | .Compare _ _ (r :: _) _ => r
  | e => e
noncomputable def compE : Expr → Expr
  | .ListComp e _ _ _ => e
  | e => e
noncomputable def compS : Expr → Kd
  | .ListComp _ _ s _ => s.names
  | _ => []
noncomputable def compT : Expr → Expr
  | .ListComp _ (g :: _) _ _ => g.target
  | e => e
noncomputable def tstC : Expr := cmpR (orE 2 (asV (bdyE 2)))
noncomputable def tlk (k : Int) : Option (UInt64 × UInt64 × UInt64 × List D) → Gm
  | none => [(Str.ofString "k", .int k)]
  | some (h, s, v, b) => tl1 k h s v b
noncomputable def bkOf : Option (UInt64 × UInt64 × UInt64 × List D) → Gm
  | none => []
  | some (_, _, _, b) => [(Str.ofString "back", .lst b)]
noncomputable def tlh (k : Int) (h : UInt64) (bk : Gm) : Gm := [(Str.ofString "k", .int k), (Str.ofString "hue", .flt h), (Str.ofString "share", .flt (fB true)), (Str.ofString "value", .flt (fB true))] ++ bk
section
variable {scr : List D} {st k : Int} {L stp : Nat} {shs : List D} {str : Str} {bk : Gm}
theorem hueF : ∀ x y z, Nd x y z → (X14 C p1 p2).N "rgb_to_hsv" [.flt (fB x), .flt (fB y), .flt (fB z)] = some (.tup [.flt (hueC x y z), .flt (fB true), .flt (fB true)]) :=
  nd_cases (by kernel_rfl) (by kernel_rfl) (by kernel_rfl) (by kernel_rfl) (by kernel_rfl) (by kernel_rfl)
theorem backF : ∀ x y z, Nd x y z → evE (X14 C p1 p2) 12 lsc (LG scr st L stp shs str (tlh k (hueC x y z) bk)) (asV (bdyE 1)) = some (.lst [bQ x, bQ y, bQ z]) :=
  nd_cases (by kernel_rfl) (by kernel_rfl) (by kernel_rfl) (by kernel_rfl) (by kernel_rfl) (by kernel_rfl)
theorem letF : ∀ x y z, Nd x y z → evE (X14 C p1 p2) 12 lsc (LG scr st L stp shs str (tl1 k (hueC x y z) (fB true) (fB true) [bQ x, bQ y, bQ z])) (augV (bdyE 3)) = some (.str (strOf [letC x y z])) :=
  nd_cases (by kernel_rfl) (by kernel_rfl) (by kernel_rfl) (by kernel_rfl) (by kernel_rfl) (by kernel_rfl)
theorem tstF1 : ∀ x y z, Nd x y z → evE (X14 C p1 p2) 11 lsc (LG scr st L stp shs str (tl1 k (hueC x y z) (fB true) (fB true) [bQ x, bQ y, bQ z])) (orE 0 (asV (bdyE 2))) = some (.bool false) :=
  nd_cases (by kernel_rfl) (by kernel_rfl) (by kernel_rfl) (by kernel_rfl) (by kernel_rfl) (by kernel_rfl)
theorem tstF2 : ∀ x y z, Nd x y z → evE (X14 C p1 p2) 11 lsc (LG scr st L stp shs str (tl1 k (hueC x y z) (fB true) (fB true) [bQ x, bQ y, bQ z])) (orE 1 (asV (bdyE 2))) = some (.bool false) :=
  nd_cases (by kernel_rfl) (by kernel_rfl) (by kernel_rfl) (by kernel_rfl) (by kernel_rfl) (by kernel_rfl)
theorem rndF : ∀ x y z : Bool, compL (bindN (compS tstC) (freeG (LG scr st L stp shs str bk) (compS tstC)) (compT tstC)) (fun Γ' => testsD (evE (X14 C p1 p2) 9 (compS tstC) Γ') []) (compI (evE (X14 C p1 p2) 9) (compS tstC) (compE tstC) []) [.flt (fB x), .flt (fB y), .flt (fB z)] = some [bQ x, bQ y, bQ z] := by
  intro x y z; cases x <;> cases y <;> cases z <;> kernel_rfl
theorem eqF : ∀ x y z : Bool, cmpD .NotEq (.lst [bQ x, bQ y, bQ z]) (.lst [bQ x, bQ y, bQ z]) = some false := by
  intro x y z; cases x <;> cases y <;> cases z <;> kernel_rfl
theorem turn {n k : Nat} {S : Nat → Bool} {x y z : Bool} (tl : Option (UInt64 × UInt64 × UInt64 × List D)) (hx : S k = x) (hy : S (k + 1) = y) (hz : S (k + 2) = z) (hnd : Nd x y z) (hk : k + 3 ≤ n) (hn : n ≤ 900) (hs : str.length ≤ 900) :
    evSs (lrec C p1 p2 11) lsc bdyK (LG scr st L stp (shD S n) str (tlk k tl)) [] = some (.nxt, LG scr st L stp (shD S n) (str ++ strOf [letC x y z]) (tl1 k (hueC x y z) (fB true) (fB true) [bQ x, bQ y, bQ z]), []) := by
  have i0 := item_sh (S := S) (n := n) (k := k) (by omega) (by omega)
  have i1 := item_sh (S := S) (n := n) (k := k + 1) (by omega) (by omega)
  have i2 := item_sh (S := S) (n := n) (k := k + 2) (by omega) (by omega)
  have sl := slice_sh (S := S) (n := n) (k := k) (by omega) (by omega)
  rw [hx, hy, hz] at sl
  rw [hx] at i0
  rw [hy] at i1
  rw [hz] at i2
  clear hx hy hz
  generalize shD S n = shs at *
  have hb2 := backF (C := C) (p1 := p1) (p2 := p2) (scr := scr) (st := st) (k := k) (L := L) (stp := stp) (shs := shs) (str := str) (bk := bkOf tl) x y z hnd
  have c1 : evS noHk (evE (X14 C p1 p2) 12) 9 11 lsc (LG scr st L stp shs str (tlk k tl)) [] (bdyE 0) = some (.nxt, LG scr st L stp shs str (tlh k (hueC x y z) (bkOf tl)), []) := by
    cases tl <;> exact evS_tup rfl rfl (evE_call rfl rfl (each_cons rfl (evE_item (a := .lst shs) (b := .int (k : Nat)) rfl (by kernel_rfl) (by kernel_rfl) i0) (each_cons rfl (evE_item (a := .lst shs) (b := .int ((k + 1 : Nat))) rfl (by kernel_rfl) (by kernel_rfl) i1) (each_cons rfl (evE_item (a := .lst shs) (b := .int ((k + 2 : Nat))) rfl (by kernel_rfl) (by kernel_rfl) i2) rfl))) (hueF x y z hnd)) (by kernel_rfl)
  have c2 : evS noHk (evE (X14 C p1 p2) 12) 9 11 lsc (LG scr st L stp shs str (tlh k (hueC x y z) (bkOf tl))) [] (bdyE 1) = some (.nxt, LG scr st L stp shs str (tl1 k (hueC x y z) (fB true) (fB true) [bQ x, bQ y, bQ z]), []) := by
    refine (evS_asg rfl rfl rfl hb2).trans ?_
    cases tl <;> kernel_rfl
  have c3 : evS noHk (evE (X14 C p1 p2) 12) 9 11 lsc (LG scr st L stp shs str (tl1 k (hueC x y z) (fB true) (fB true) [bQ x, bQ y, bQ z])) [] (bdyE 2) = some (.nxt, LG scr st L stp shs str (tl1 k (hueC x y z) (fB true) (fB true) [bQ x, bQ y, bQ z]), []) := by
    refine (evS_IfH (c := false) rfl (testD_of (d := .bool false) (evE_or3 (tstF1 x y z hnd) (tstF2 x y z hnd) ?_) rfl)).trans rfl
    refine evE_cmp1 (a := .lst [bQ x, bQ y, bQ z]) (b := .lst [bQ x, bQ y, bQ z]) rfl (by kernel_rfl) ?_ (eqF x y z)
    exact evE_comp (d := .lst [.flt (fB x), .flt (fB y), .flt (fB z)]) rfl rfl (by kernel_rfl) (evE_slice (a := .lst shs) (by kernel_rfl) (l := some (k : Int)) (h := some ((k : Int) + 3)) (q := none) (by kernel_rfl) (by kernel_rfl) rfl sl) rfl (rndF x y z) rfl
  have c4 : evS noHk (evE (X14 C p1 p2) 12) 9 11 lsc (LG scr st L stp shs str (tl1 k (hueC x y z) (fB true) (fB true) [bQ x, bQ y, bQ z])) [] (bdyE 3) = some (.nxt, LG scr st L stp shs (str ++ strOf [letC x y z]) (tl1 k (hueC x y z) (fB true) (fB true) [bQ x, bQ y, bQ z]), []) :=
    (evS_aug (a := .str str) rfl rfl rfl (by kernel_rfl) (letF x y z hnd) (addS_D (by show str.length + 1 ≤ 1000; omega))).trans (by kernel_rfl)
  exact (evSs_cons c1).trans ((evSs_cons c2).trans ((evSs_cons c3).trans ((evSs_cons c4).trans rfl)))
end
end Mine

end
section
open PySem PySem.W PyProof.Rows
set_option Elab.async false
set_option maxRecDepth 100000
namespace Mine

variable {C p1 p2 : Nat}
theorem fmAll {α β : Type} {g : α → Option β} {f : α → β} : ∀ {l : List α}, (∀ i ∈ l, g i = some (f i)) → l.filterMap g = l.map f
  | [], _ => rfl
  | x :: l, h => by
    rw [List.filterMap_cons_some (h x List.mem_cons_self), fmAll fun i hi => h i (List.mem_cons_of_mem _ hi)]; rfl
theorem strip_succ (S : Nat → Bool) (m : Nat) : strOf (stripL S m) ++ strOf [chS S m] = strOf (stripL S (m + 1)) := by
  show (⟨(stripL S m).toArray ++ [chS S m].toArray⟩ : Str) = _
  congr 1
  unfold stripL
  rw [List.range_succ, List.map_append]
  simp
theorem pre_range {done rest : List Nat} {x N : Nat} (h : done ++ x :: rest = List.range N) : x = done.length ∧ done.length < N := by
  have hl := congrArg List.length h
  rw [List.length_append, List.length_cons, List.length_range] at hl
  have h1 : (done ++ x :: rest)[done.length]? = some x := by rw [List.getElem?_append_right (Nat.le_refl _), Nat.sub_self]; rfl
  rw [h, List.getElem?_range (by omega)] at h1
  exact ⟨(Option.some.inj h1).symm, by omega⟩
theorem stripL_len (S : Nat → Bool) (m : Nat) : (stripL S m).length = m := by unfold stripL; rw [List.length_map, List.length_range]

section
variable {scr : List D} {st : Int} {L stp : Nat} {S : Nat → Bool}
inductive SlInv (S : Nat → Bool) (L stp : Nat) (st : Int) (scr : List D) (done : List Nat) : Gm → Om → Prop
  | nil (e : done = []) : SlInv S L stp st scr done (LG scr st L stp (shD S (20 + L)) (strOf []) []) []
  | mk (k : Int) (h s v : UInt64) (b : List D) : SlInv S L stp st scr done (LG scr st L stp (shD S (20 + L)) (strOf (stripL S done.length)) (tl1 k h s v b)) []
theorem SlInv.of {done : List Nat} {Γ : Gm} (k : Int) (h s v : UInt64) (b : List D) (e : Γ = LG scr st L stp (shD S (20 + L)) (strOf (stripL S done.length)) (tl1 k h s v b)) : SlInv S L stp st scr done Γ [] := e ▸ .mk k h s v b
theorem strip_loop (hL : L ≤ 8) (hnd : ∀ i, i < 15 + L → Nd (S (i + 3)) (S (i + 4)) (S (i + 5))) :
    ∃ k h s v b, evS noHk (evE (X14 C p1 p2) 12) 9 12 lsc (LG scr st L stp (shD S (20 + L)) (strOf []) []) [] (lst 5) = some (.nxt, LG scr st L stp (shD S (20 + L)) (strOf (stripL S (15 + L))) (tl1 k h s v b), []) := by
  have loop := forD_pre (sc := lsc) (t := forT (lst 5)) (body := evSs (lrec C p1 p2 11) lsc bdyK) (f := fun i : Nat => D.int ((3 + i : Nat) : Int))
    (SlInv S L stp st scr)
    (List.range (15 + L)) ?_ (List.range (15 + L)) [] (LG scr st L stp (shD S (20 + L)) (strOf []) []) [] rfl (.nil rfl)
  · obtain ⟨Γ2, Ω2, l1, hI⟩ := loop
    rcases hI with ⟨e⟩ | ⟨k, h, s, v, b⟩
    · have := congrArg List.length e
      rw [List.length_range, Nat.add_comm] at this
      exact absurd this (Nat.succ_ne_zero _)
    · rw [List.length_range] at l1
      refine ⟨k, h, s, v, b, ?_⟩
      exact (evS_ForH (d := .rng ((3 : Nat) : Int) ((18 + L : Nat) : Int)) rfl rfl (by kernel_rfl) ((range_iter2 (by omega) (by omega)).trans (by rw [show 18 + L - 3 = 15 + L by omega]))).trans l1
  · intro done i rest Γ Ω hd hI
    obtain ⟨rfl, hi⟩ := pre_range hd
    generalize hm : done.length = i at *
    have key : Ω = [] ∧ ∃ (str : Str) (tl : _), str = strOf (stripL S i) ∧ bindT lsc (forT (lst 5)) (.int ((3 + i : Nat) : Int)) Γ = some (LG scr st L stp (shD S (20 + L)) str (tlk ((3 + i : Nat) : Int) tl)) := by
      rcases hI with ⟨e⟩ | ⟨k, h, s, v, b⟩
      · subst e
        obtain rfl := hm
        exact ⟨rfl, strOf [], none, rfl, by kernel_rfl⟩
      · rw [hm]; exact ⟨rfl, _, some (h, s, v, b), rfl, by kernel_rfl⟩
    obtain ⟨rfl, str, tl, hstr, hb⟩ := key
    refine ⟨_, _, _, hb, turn tl (x := S (i + 3)) (y := S (i + 4)) (z := S (i + 5)) (by rw [Nat.add_comm]) (by rw [show 3 + i + 1 = i + 4 by omega]) (by rw [show 3 + i + 2 = i + 5 by omega]) (hnd i hi) (by omega) (by omega) (by rw [hstr]; show (stripL S i).length ≤ 900; rw [stripL_len]; omega), SlInv.of ((3 + i : Nat) : Int) (hueC (S (i + 3)) (S (i + 4)) (S (i + 5))) (fB true) (fB true) [bQ (S (i + 3)), bQ (S (i + 4)), bQ (S (i + 5))] ?_⟩
    rw [hstr, List.length_append, hm]
    show LG scr st L stp (shD S (20 + L)) (strOf (stripL S i) ++ strOf [chS S i]) _ = LG scr st L stp (shD S (20 + L)) (strOf (stripL S (i + 1))) _
    rw [strip_succ]

/-! the rows -/
noncomputable def row (S : Nat → Bool) (L p : Nat) : List Nat := (List.range L).map fun i => chS S (p + i)
noncomputable def rowsD (S : Nat → Bool) (L : Nat) : List D := (List.range 16).map fun p => D.str (strOf (row S L p))
theorem sliceS_D {x : Str} {lo hi : Option Int} (h : x.length ≤ 1000) : sliceD (.str x) lo hi none = some (.str (Txt.slice x lo hi)) := by
  show (if x.length ≤ sizeLine then some (D.str (Txt.slice x lo hi)) else none) = _
  rw [if_pos (by rw [sizeLine_eq]; omega)]
theorem slice_row {p : Nat} (hp : p < 16) : Txt.slice (strOf (stripL S (15 + L))) (some (p : Int)) (some ((p + L : Nat) : Int)) = strOf (row S L p) := by
  rw [slice_l (by omega) (by rw [stripL_len]; omega) (by rw [stripL_len]; omega), show p + L - p = L by omega]
  congr 2
  exact fmAll fun i hi => rget (f := chS S) (by have := List.mem_range.mp hi; omega)
theorem slice_row0 : Txt.slice (strOf (stripL S (15 + L))) none (some ((L + 1 : Nat) : Int)) = strOf (row S (L + 1) 0) := by
  rw [slice_l0 (by rw [stripL_len]; omega) (by rw [stripL_len]; omega)]
  congr 2
  exact fmAll fun i hi => (rget (f := chS S) (by have := List.mem_range.mp hi; omega)).trans (by rw [Nat.zero_add])
variable {T : Gm} {str : Str} {k : Int} {h s v : UInt64} {b : List D}
theorem rows_ev (hL : L ≤ 8) : evE (X14 C p1 p2) 12 lsc (LG scr st L stp (shD S (20 + L)) (strOf (stripL S (15 + L))) (tl1 k h s v b)) (asV (lst 6)) = some (.lst (rowsD S L)) := by
  refine evE_comp (d := .rng 0 ((16 : Nat) : Int)) rfl rfl (by kernel_rfl) (by kernel_rfl) (range_iter (by omega)) (compL_all (f := fun i : Nat => D.int (i : Int)) (g := fun p => D.str (strOf (row S L p))) fun p hp => ?_) (by kernel_rfl)
  have hp := List.mem_range.mp hp
  refine ⟨put (freeG (LG scr st L stp (shD S (20 + L)) (strOf (stripL S (15 + L))) (tl1 k h s v b)) (compS (asV (lst 6)))) "p" (.int p), by kernel_rfl, rfl, compI_nil ?_⟩
  exact evE_slice (a := .str (strOf (stripL S (15 + L)))) (l := some (p : Int)) (h := some ((p + L : Nat) : Int)) (q := none) (by kernel_rfl) (by kernel_rfl) (by kernel_rfl) rfl ((sliceS_D (by show (stripL S (15 + L)).length ≤ 1000; rw [stripL_len]; omega)).trans (by rw [slice_row hp]))
end
end Mine

end
section
open PySem PySem.W PyProof.Rows
set_option Elab.async false
set_option maxRecDepth 100000
namespace Mine

variable {C p1 p2 : Nat} {scr : List D} {st : Int} {L stp : Nat} {S : Nat → Bool} {k : Int} {h s v : UInt64} {b : List D}
noncomputable def strP (p : Nat) : Str := Str.ofString (toString (p : Int))
noncomputable def upL (l : List Nat) : List Nat := l.map (· - 32)
noncomputable def pr (S : Nat → Bool) (L p : Nat) : Str × Str := (strOf (cond (p % 2 == 1) (upL (row S L p)) (row S L p)), strP p)
noncomputable def lng (S : Nat → Bool) (L : Nat) : Str × Str := (strOf (row S (L + 1) 0), "16")
noncomputable def psT (S : Nat → Bool) (L : Nat) : List (Str × Str) := (List.range 16).map (pr S L) ++ [lng S L, lng S L]
noncomputable def tl2 (k : Int) (h s v : UInt64) (b : List D) (S : Nat → Bool) (L : Nat) : Gm := tl1 k h s v b ++ [(Str.ofString "rows", .lst (rowsD S L)), (Str.ofString "longer", .str (strOf (row S (L + 1) 0)))]
noncomputable def LM (scr : List D) (st : Int) (L stp : Nat) (S : Nat → Bool) (k : Int) (h s v : UInt64) (b : List D) (tl : Gm) : Gm := LG scr st L stp (shD S (20 + L)) (strOf (stripL S (15 + L))) (tl2 k h s v b S L ++ tl)
theorem row_len (S : Nat → Bool) (L p : Nat) : (row S L p).length = L := by unfold row; rw [List.length_map, List.length_range]
theorem row_ltr (S : Nat → Bool) (L p : Nat) : Ltr (row S L p) := by
  intro c hc
  obtain ⟨i, _, rfl⟩ := List.mem_map.mp hc
  exact letC_ltr _ _ _
theorem longer_ev (hL : L ≤ 8) : evE (X14 C p1 p2) 12 lsc (LG scr st L stp (shD S (20 + L)) (strOf (stripL S (15 + L))) (tl1 k h s v b ++ [(Str.ofString "rows", .lst (rowsD S L))])) (asV (lst 7)) = some (.str (strOf (row S (L + 1) 0))) :=
  evE_slice (a := .str (strOf (stripL S (15 + L)))) (l := none) (h := some ((L + 1 : Nat) : Int)) (q := none) (by kernel_rfl) rfl (by kernel_rfl) rfl ((sliceS_D (by show (stripL S (15 + L)).length ≤ 1000; rw [stripL_len]; omega)).trans (by rw [slice_row0]))
theorem up_D {x : Str} (h : (Txt.upper x).length ≤ 1000) : methD .upper (.str x) [] = some (.str (Txt.upper x)) := by
  show (match Builtin.Str.tooLong (Txt.upper x).length with
    | true => none
    | false => some (D.str (Txt.upper x))) = _
  rw [show Builtin.Str.tooLong (Txt.upper x).length = false from decide_eq_false (by rw [sizeLine_eq]; omega)]
theorem strP_D {p : Nat} (hp : p < 16) : primD .str [.int (p : Int)] = some (.str (strP p)) := by
  show (if (p : Int).natAbs.log2 < 1920 then some (D.str (Str.ofString (toString (p : Int)))) else none) = _
  rw [if_pos (Nat.lt_of_le_of_lt (Nat.log2_le_self _) (by omega))]
  rfl
theorem rows_item {p : Nat} (hp : p < 16) : itemD (.lst (rowsD S L)) (.int (p : Int)) = some (.str (strOf (row S L p))) := item_lst (rget hp) (by omega)
noncomputable def elt8 : Expr := compE (boL (argE 0 (asV (lst 8))))
noncomputable def sc8 : Kd := compS (boL (argE 0 (asV (lst 8))))
noncomputable def G8 (scr : List D) (st : Int) (L stp : Nat) (S : Nat → Bool) (k : Int) (h s v : UInt64) (b : List D) (p : Nat) : Gm := put (freeG (LM scr st L stp S k h s v b []) sc8) "p" (.int p)
theorem rc_ev {p : Nat} (hp : p < 16) {px pv pp : Pos} {n : Nat} : evE (X14 C p1 p2) (n + 2) sc8 (G8 scr st L stp S k h s v b p) (.Subscript (.Name "rows" px) (.Name "p" pv) pp) = some (.str (strOf (row S L p))) :=
  evE_item (a := .lst (rowsD S L)) (b := .int p) rfl (by kernel_rfl) (by kernel_rfl) (rows_item hp)
theorem tst_mod (p : Nat) : truth (.int ((p : Int).fmod 2)) = some (p % 2 == 1) := by
  show some ((p : Int).fmod 2 != 0) = some (p % 2 == 1)
  rw [Int.fmod_eq_emod_of_nonneg _ (by decide)]
  congr 1
  rcases Nat.mod_two_eq_zero_or_one p with e | e
  · rw [e, show (p : Int) % 2 = 0 by omega]; rfl
  · rw [e, show (p : Int) % 2 = 1 by omega]; rfl
theorem pr_ev {p : Nat} (hL : L ≤ 8) (hp : p < 16) : evE (X14 C p1 p2) 9 sc8 (G8 scr st L stp S k h s v b p) elt8 = some (pD (pr S L p)) := by
  refine evE_tup (ds := [.str (pr S L p).1, .str (pr S L p).2]) (each_cons rfl ?_ (each_cons (ds := []) rfl ?_ rfl)) rfl
  · refine evE_if (c := .int ((p : Int).fmod 2)) (v := p % 2 == 1) (by kernel_rfl) (tst_mod p) ?_
    unfold pr
    cases p % 2 == 1
    · exact rc_ev hp
    · refine (evE_meth (mn := "upper") rfl rfl rfl (d := .str (strOf (row S L p))) (ds := []) (rc_ev hp) rfl (up_D ?_)).trans (by rw [upper_l (row_ltr S L p)]; rfl)
      rw [upper_l (row_ltr S L p)]
      show ((row S L p).map (· - 32)).length ≤ 1000
      rw [List.length_map, row_len]; omega
  · exact evE_prim rfl rfl (each_cons (d := .int p) (ds := []) rfl (by kernel_rfl) rfl) (by kernel_rfl) (pr := (.str, .type "str")) (by kernel_rfl) (strP_D hp)
theorem pairs_ev (hL : L ≤ 8) : evE (X14 C p1 p2) 11 lsc (LM scr st L stp S k h s v b []) (argE 0 (asV (lst 8))) = some (.lst ((psT S L).map pD)) := by
  refine (evE_bin (a := .lst ((List.range 16).map fun p => pD (pr S L p))) (b := .lst [pD (lng S L), pD (lng S L)]) ?_ (by kernel_rfl) (addL_D (by rw [List.length_map, List.length_range]; show 18 ≤ 1000; decide))).trans ?_
  · refine evE_comp (d := .rng 0 ((16 : Nat) : Int)) rfl rfl (by kernel_rfl) (by kernel_rfl) (range_iter (by omega)) (compL_all (f := fun i : Nat => D.int (i : Int)) (g := fun p => pD (pr S L p)) fun p hp => ?_) (by kernel_rfl)
    have hp := List.mem_range.mp hp
    exact ⟨G8 scr st L stp S k h s v b p, by kernel_rfl, rfl, compI_nil (pr_ev hL hp)⟩
  · show some (D.lst ((List.range 16).map (fun p => pD (pr S L p)) ++ [pD (lng S L), pD (lng S L)])) = _
    unfold psT
    rw [List.map_append, List.map_map]
    rfl

theorem all16 {P : Nat → Prop} (h : ∀ i : Fin 16, P i.val) : ∀ p, p < 16 → P p := fun p hp => h ⟨p, hp⟩
theorem strP_safe : ∀ p, p < 16 → Safe (strP p) = true
  | 0, _ => by kernel_rfl | 1, _ => by kernel_rfl | 2, _ => by kernel_rfl | 3, _ => by kernel_rfl | 4, _ => by kernel_rfl | 5, _ => by kernel_rfl | 6, _ => by kernel_rfl | 7, _ => by kernel_rfl
  | 8, _ => by kernel_rfl | 9, _ => by kernel_rfl | 10, _ => by kernel_rfl | 11, _ => by kernel_rfl | 12, _ => by kernel_rfl | 13, _ => by kernel_rfl | 14, _ => by kernel_rfl | 15, _ => by kernel_rfl
  | n + 16, h => absurd h (by omega)
theorem strP_int : ∀ p, p < 16 → primD .int [.str (strP p)] = some (.int (p : Int))
  | 0, _ => by kernel_rfl | 1, _ => by kernel_rfl | 2, _ => by kernel_rfl | 3, _ => by kernel_rfl | 4, _ => by kernel_rfl | 5, _ => by kernel_rfl | 6, _ => by kernel_rfl | 7, _ => by kernel_rfl
  | 8, _ => by kernel_rfl | 9, _ => by kernel_rfl | 10, _ => by kernel_rfl | 11, _ => by kernel_rfl | 12, _ => by kernel_rfl | 13, _ => by kernel_rfl | 14, _ => by kernel_rfl | 15, _ => by kernel_rfl
  | n + 16, h => absurd h (by omega)
theorem up_mem {l : List Nat} (h : Ltr l) : ∀ c ∈ upL l, 32 ≤ c ∧ c ≤ 126 := by
  intro c hc
  obtain ⟨d, hd, rfl⟩ := List.mem_map.mp hc
  have := h d hd
  omega
theorem lt_mem {l : List Nat} (h : Ltr l) : ∀ c ∈ l, 32 ≤ c ∧ c ≤ 126 := fun c hc => by have := h c hc; omega
theorem pr_safe {p : Nat} (hL : L ≤ 8) (hp : p < 16) : Safe (pr S L p).1 = true ∧ Safe (pr S L p).2 = true ∧ Txt.lower (pr S L p).1 = strOf (row S L p) := by
  refine ⟨?_, strP_safe p hp, ?_⟩ <;> unfold pr <;> cases p % 2 == 1
  · exact safe_l (lt_mem (row_ltr S L p)) (by simp only [cond, row_len]; omega)
  · exact safe_l (up_mem (row_ltr S L p)) (by simp only [cond, upL, List.length_map, row_len]; omega)
  · exact lower_l (row_ltr S L p)
  · exact lower_u (row_ltr S L p)
theorem lng_safe (hL : L ≤ 8) : Safe (lng S L).1 = true ∧ Safe (lng S L).2 = true ∧ Txt.lower (lng S L).1 = strOf (row S (L + 1) 0) :=
  ⟨safe_l (lt_mem (row_ltr S (L + 1) 0)) (by rw [row_len]; omega), by unfold lng; kernel_rfl, lower_l (row_ltr S (L + 1) 0)⟩
theorem psT_mem {q : Str × Str} (h : q ∈ psT S L) : (∃ p, p < 16 ∧ q = pr S L p) ∨ q = lng S L := by
  unfold psT at h
  rcases List.mem_append.mp h with h | h
  · obtain ⟨p, hp, rfl⟩ := List.mem_map.mp h
    exact .inl ⟨p, List.mem_range.mp hp, rfl⟩
  · rcases List.mem_cons.mp h with h | h
    · exact .inr h
    · exact .inr (List.mem_singleton.mp h)
theorem low_of {x : Str} {l : List Nat} (h : Txt.lower x = strOf l) (hl : l.length ≤ 1000) : low x = false := by
  unfold low
  rw [h]
  exact decide_eq_false (by rw [sizeLine_eq]; show ¬ l.length > _; omega)
theorem hdr_ev (hL : L ≤ 8) : (X14 C p1 p2).N "Headers" [.lst ((psT S L).map pD)] = some (.hdr C ((psT S L).map pD)) := by
  refine orN_old (orN_old (orN_old (orN_old (addF_old (orN_old (orN_old (orN_old (orN_old (orN_old (orN_old ?_))))))))))
  have h0 : (X2 C p1 p2).N "Headers" [.lst ((psT S L).map pD)] = none := by kernel_rfl
  simp only [X3, orN, h0]
  show (match pairsOf ((psT S L).map pD) with
    | some ps => match ps.all fun p => Safe p.1 && Safe p.2 with
      | true => some (D.hdr C ((psT S L).map pD))
      | false => none
    | none => none) = _
  rw [pairsOf_map]
  dsimp only
  rw [show ((psT S L).all fun p => Safe p.1 && Safe p.2) = true from List.all_eq_true.mpr fun q hq => by
    rcases psT_mem hq with ⟨p, hp, rfl⟩ | rfl
    · rw [(pr_safe hL hp).1, (pr_safe hL hp).2.1]; rfl
    · rw [(lng_safe hL).1, (lng_safe hL).2.1]; rfl]
theorem table_ev (hL : L ≤ 8) : evE (X14 C p1 p2) 12 lsc (LM scr st L stp S k h s v b []) (asV (lst 8)) = some (.hdr C ((psT S L).map pD)) :=
  evE_call rfl rfl (each_cons rfl (pairs_ev hL) rfl) (hdr_ev hL)

/-! reading the table -/
theorem strOf_beq (a b : List Nat) : (strOf a == strOf b) = (a == b) := by
  rw [Bool.eq_iff_iff, beq_iff_eq, beq_iff_eq]
  exact ⟨fun e => by have := congrArg (fun x : Str => x.cps.toList) e; simpa using this, fun e => by rw [e]⟩
theorem filter_map_pr {t : List Nat} (hL : L ≤ 8) : ∀ l : List Nat, (∀ q ∈ l, q < 16) → (((l.map (pr S L)).filter fun p => Txt.lower p.1 == strOf t).map fun p => D.str p.2) = ((l.filter fun q => row S L q == t).map fun q => D.str (strP q))
  | [], _ => rfl
  | q :: l, h => by
    have ih := filter_map_pr (t := t) hL l fun x hx => h x (List.mem_cons_of_mem _ hx)
    have e : (Txt.lower (pr S L q).1 == strOf t) = (row S L q == t) := by rw [(pr_safe hL (h q List.mem_cons_self)).2.2, strOf_beq]
    rw [List.map_cons, List.filter_cons, List.filter_cons, e]
    cases row S L q == t
    · exact ih
    · show _ :: _ = _ :: _
      rw [ih]; rfl
theorem getL_eq {name : Str} {t : List Nat} (hL : L ≤ 8) (ht : Txt.lower name = strOf t) : getL (psT S L) name = (((List.range 16).filter fun q => row S L q == t).map fun q => D.str (strP q)) ++ cond (row S (L + 1) 0 == t) [.str "16", .str "16"] [] := by
  unfold getL psT
  rw [ht, List.filter_append, List.map_append, filter_map_pr hL _ fun q hq => List.mem_range.mp hq]
  congr 1
  have e : (Txt.lower (lng S L).1 == strOf t) = (row S (L + 1) 0 == t) := by rw [(lng_safe hL).2.2, strOf_beq]
  rw [List.filter_cons, List.filter_cons, e]
  cases row S (L + 1) 0 == t <;> rfl
theorem getM_ev {name : Str} {t : List Nat} (hL : L ≤ 8) (ht : Txt.lower name = strOf t) (h1 : ∀ c ∈ t, 32 ≤ c ∧ c ≤ 126) (h2 : t.length ≤ 1000) : (X14 C p1 p2).M "get_all" (.hdr C ((psT S L).map pD)) [.str name] = some (.lst (getL (psT S L) name)) := by
  show (match (X1 C p1 p2).M "get_all" (.hdr C ((psT S L).map pD)) [.str name] with
    | some d => some d
    | none => getM C "get_all" (.hdr C ((psT S L).map pD)) [.str name]) = _
  have h0 : (X1 C p1 p2).M "get_all" (.hdr C ((psT S L).map pD)) [.str name] = none := by kernel_rfl
  rw [h0]
  show (match hdrOf C (.hdr C ((psT S L).map pD)) with
    | some xs => match pairsOf xs with
      | some ps => match Safe (Txt.lower name) && !low name && ps.all (fun p => !low p.1) && Nat.ble ps.length 1000 with
        | true => some (D.lst (getL ps name))
        | false => none
      | none => none
    | none => none) = _
  rw [hdrOf_self]
  dsimp only
  rw [pairsOf_map]
  dsimp only
  have hlow : low name = false := low_of ht h2
  have hall : ((psT S L).all fun p => !low p.1) = true := List.all_eq_true.mpr fun q hq => by
    rcases psT_mem hq with ⟨p, hp, rfl⟩ | rfl
    · rw [low_of (pr_safe hL hp).2.2 (by rw [row_len]; omega)]; rfl
    · rw [low_of (lng_safe hL).2.2 (by rw [row_len]; omega)]; rfl
  rw [hlow, hall, ht, safe_l h1 h2, show Nat.ble (psT S L).length 1000 = true by unfold psT; rw [List.length_append, List.length_map, List.length_range]; rfl]
  rfl
end Mine

end
section
open PySem PySem.W PyProof.Rows
set_option Elab.async false
set_option maxRecDepth 100000
set_option exponentiation.threshold 10000
namespace Mine

section
variable {X : Nv} {n : Nat} {sc : Kd} {Γ : Gm}
theorem evE_cmp2 {l r1 r2 : Expr} {o1 o2 : CmpOp} {p : Pos} {a b c : D} {w : Bool} (hm : lastMarks [o1, o2] [r1, r2] = false) (h1 : evE X n sc Γ l = some a) (h2 : evE X n sc Γ r1 = some b) (h3 : evE X n sc Γ r2 = some c) (e1 : cmpD o1 a b = some true) (e2 : cmpD o2 b c = some w) :
    evE X (n + 1) sc Γ (.Compare l [o1, o2] [r1, r2] p) = some (.bool w) := by
  show (match lastMarks [o1, o2] [r1, r2] with
    | true => none
    | false => match evE X n sc Γ l with
      | none => none
      | some a => chainD (evE X n sc Γ) a [o1, o2] [r1, r2]) = _
  rw [hm]; dsimp only; rw [h1]; dsimp only
  unfold chainD
  rw [h2]; dsimp only; rw [e1]; dsimp only
  unfold chainD
  rw [h3]; dsimp only; rw [e2]
end
variable {C p1 p2 : Nat} {scr : List D} {st : Int} {L stp : Nat} {S : Nat → Bool} {k : Int} {h s v : UInt64} {b : List D} {T : Gm} {Ω : Om}
noncomputable def tabT (C : Nat) (S : Nat → Bool) (L : Nat) : Gm := [(Str.ofString "table", .hdr C ((psT S L).map pD))]
theorem rows_ne (S : Nat → Bool) (L : Nat) {t : List Nat} (ht : t.length ≠ L) : ((List.range 16).filter fun q => row S L q == t) = [] := by
  rw [List.filter_eq_nil_iff]
  intro q _ e
  have := congrArg List.length (beq_iff_eq.mp e)
  rw [row_len] at this
  exact ht this.symm
theorem st9 (hL1 : 1 ≤ L) (hL : L ≤ 8) : evS noHk (evE (X14 C p1 p2) 12) 9 12 lsc (LM scr st L stp S k h s v b (tabT C S L)) [] (lst 9) = some (.nxt, LM scr st L stp S k h s v b (tabT C S L), []) := by
  refine (evS_IfH (c := false) rfl (testD_of (d := .bool false) (evE_cmp1 (a := .lst [.lst [.str "16", .str "16"], .lst []]) (b := .lst [.lst [.str "16", .str "16"], .lst []]) rfl ?_ (by kernel_rfl) (by kernel_rfl)) rfl)).trans rfl
  refine evE_lst (each_cons rfl ?_ (each_cons (ds := []) rfl ?_ rfl)) rfl
  · refine evE_methX (mn := "get_all") (d := .hdr C ((psT S L).map pD)) (ds := [.str (strOf (upL (row S (L + 1) 0)))]) rfl rfl rfl rfl (by kernel_rfl) (each_cons rfl ?_ rfl) ?_
    · refine (evE_meth (mn := "upper") rfl rfl rfl (d := .str (strOf (row S (L + 1) 0))) (ds := []) (by kernel_rfl) rfl (up_D ?_)).trans (by rw [upper_l (row_ltr S (L + 1) 0)]; rfl)
      rw [upper_l (row_ltr S (L + 1) 0)]
      show ((row S (L + 1) 0).map (· - 32)).length ≤ 1000
      rw [List.length_map, row_len]; omega
    · have hl := lower_u (row_ltr S (L + 1) 0)
      refine (getM_ev hL hl (lt_mem (row_ltr S (L + 1) 0)) (by rw [row_len]; omega)).trans ?_
      rw [getL_eq hL hl, rows_ne S L (by rw [row_len]; omega), beq_self_eq_true]
      rfl
  · refine evE_methX (mn := "get_all") (d := .hdr C ((psT S L).map pD)) (ds := [.str (strOf [103])]) rfl rfl rfl rfl (by kernel_rfl) (by kernel_rfl) ?_
    have hl : Txt.lower (strOf [103]) = strOf [103] := by kernel_rfl
    refine (getM_ev hL hl (by decide) (by decide)).trans ?_
    have e1 : ((List.range 16).filter fun q => row S L q == [103]) = [] := by
      rw [List.filter_eq_nil_iff]
      intro q _ e
      have e := beq_iff_eq.mp e
      have := row_ltr S L q 103 (by rw [e]; exact List.mem_cons_self)
      omega
    have e2 : (row S (L + 1) 0 == [103]) = false := by
      rw [beq_eq_false_iff_ne]
      intro e
      have := row_ltr S (L + 1) 0 103 (by rw [e]; exact List.mem_cons_self)
      omega
    rw [getL_eq hL hl, e1, e2]
    rfl
theorem idm_ev (h0 : -(2 ^ 23) ≤ st) (h1 : st < 2 ^ 23) (hs1 : 1 ≤ stp) (hs : stp ≤ 4) : (X14 C p1 p2).N "int_divmod" [.int st, .int stp] = some (.tup [.int (st / stp), .int (st % stp)]) := by
  have hb : Builtin.Int.intBits (stp : Int) ≤ 3 := intBits_nat (by omega)
  have hd : ∀ x : Nat, x < 2 ^ 24 → ndig x (Builtin.Int.intBits (stp : Int)) ≤ 64 := fun x hx => by
    have := intBits_nat hx
    unfold ndig
    refine Nat.le_trans (Nat.div_le_self _ _) ?_
    omega
  refine orN_old (orN_old (orN_old (orN_old (addF_old ?_))))
  by_cases hst : 0 ≤ st
  · exact orN_old (orN_new (by kernel_rfl) (dmN_eq hst (by omega) (by omega) (hd _ (by omega))))
  · have e0 := dmN_eq (a := -st - 1) (b := (stp : Int)) (by omega) (by omega) (by omega) (hd _ (by omega))
    refine orN_new ?_ ?_
    · have n0 : dmN [.int st, .int stp] = none := by
        show dmP (st, (stp : Int)) = _
        unfold dmP; dsimp only; rw [decide_eq_false hst]; rfl
      have n1 : (X7 C p1 p2).N "int_divmod" [.int st, .int stp] = none := by kernel_rfl
      simp only [X8, orN, n1, atN_self, n0]
    · show (match decide (st < 0) with
        | true => match dmP (-st - 1, (stp : Int)) with
          | some _ => some (D.tup [.int (st / stp), .int (st % stp)])
          | none => none
        | false => none) = _
      rw [decide_eq_true (Int.not_le.mp hst), show dmP (-st - 1, (stp : Int)) = _ from e0]
noncomputable def brT (st : Int) (stp : Nat) : Gm := [(Str.ofString "block", .int (st / stp)), (Str.ofString "rest", .int (st % stp))]
theorem st10 (h0 : -(2 ^ 23) ≤ st) (h1 : st < 2 ^ 23) (hs1 : 1 ≤ stp) (hs : stp ≤ 4) : evS noHk (evE (X14 C p1 p2) 12) 9 12 lsc (LM scr st L stp S k h s v b (tabT C S L)) [] (lst 10) = some (.nxt, LM scr st L stp S k h s v b (tabT C S L ++ brT st stp), []) :=
  evS_tup rfl rfl (evE_call rfl rfl (each_cons (d := .int st) rfl (by kernel_rfl) (each_cons (d := .int stp) (ds := []) rfl (by kernel_rfl) rfl)) (idm_ev h0 h1 hs1 hs)) (by kernel_rfl)
theorem st11 (hs1 : 1 ≤ stp) : evS noHk (evE (X14 C p1 p2) 12) 9 12 lsc (LM scr st L stp S k h s v b (tabT C S L ++ brT st stp)) [] (lst 11) = some (.nxt, LM scr st L stp S k h s v b (tabT C S L ++ brT st stp), []) := by
  have hp : (0 : Int) < stp := by omega
  have h1 := Int.emod_nonneg st (by omega : (stp : Int) ≠ 0)
  have h2 := Int.emod_lt_of_pos st hp
  refine (evS_IfH (c := false) rfl (testD_of (d := .bool false) (evE_un (a := .bool true) (evE_cmp2 (a := .int 0) (b := .int (st % stp)) (c := .int stp) rfl (by kernel_rfl) (by kernel_rfl) (by kernel_rfl) ?_ ?_) rfl) rfl)).trans rfl
  · show some (decide _) = _; rw [decide_eq_true h1]
  · show some (decide _) = _; rw [decide_eq_true h2]
theorem st12 : evS noHk (evE (X14 C p1 p2) 12) 9 12 lsc (LM scr st L stp S k h s v b (tabT C S L ++ brT st stp)) [] (lst 12) = some (.nxt, LM scr st L stp S k h s v b (tabT C S L ++ brT st stp), [(Str.ofString "keys", OD.lst [])]) := by kernel_rfl
end Mine

end
section
open PySem PySem.W PyProof.Rows
set_option Elab.async false
set_option maxRecDepth 100000
set_option exponentiation.threshold 10000
namespace Mine

variable {C p1 p2 : Nat} {scr : List D} {st : Int} {L stp r kk : Nat} {S : Nat → Bool} {k : Int} {h s v : UInt64} {b : List D} {T : Gm} {Ω : Om}
noncomputable def inA (c : Nat) : Bool := c == 97 || c == 98 || c == 102
noncomputable def inB (c : Nat) : Bool := c == 98 || c == 99 || c == 100
noncomputable def inC (c : Nat) : Bool := c == 100 || c == 101 || c == 102
theorem conA : ∀ c : Nat, 97 ≤ c ∧ c ≤ 102 → Txt.contains "abf" (strOf [c]) = inA c ∧ Txt.contains "bcd" (strOf [c]) = inB c ∧ Txt.contains "def" (strOf [c]) = inC c :=
  six ⟨by kernel_rfl, by kernel_rfl, by kernel_rfl⟩ ⟨by kernel_rfl, by kernel_rfl, by kernel_rfl⟩ ⟨by kernel_rfl, by kernel_rfl, by kernel_rfl⟩ ⟨by kernel_rfl, by kernel_rfl, by kernel_rfl⟩ ⟨by kernel_rfl, by kernel_rfl, by kernel_rfl⟩ ⟨by kernel_rfl, by kernel_rfl, by kernel_rfl⟩
theorem inLet : ∀ x y z, Nd x y z → inA (letC x y z) = x ∧ inB (letC x y z) = y ∧ inC (letC x y z) = z := nd_cases (by decide) (by decide) (by decide) (by decide) (by decide) (by decide)
noncomputable def bitsW (S : Nat → Bool) (L p : Nat) : List Bool := (List.range (L + 2)).map fun i => S (p + 3 + i)
noncomputable def lowN (r stp p : Nat) : Nat := (r + p) % stp
noncomputable def hdN (r stp p : Nat) : Nat := 3 + p - lowN r stp p
noncomputable def cntN (L r stp p : Nat) : Nat := (lowN r stp p + L + 1) / stp + 1
noncomputable def keyL (S : Nat → Bool) (L r stp p : Nat) : List Bool := (List.range (cntN L r stp p)).map fun i => S (hdN r stp p + stp * i)
noncomputable def keyD (S : Nat → Bool) (L r stp p : Nat) : D := .lst (.int (lowN r stp p) :: (keyL S L r stp p).map fun b => .flt (fB b))
noncomputable def QT (C : Nat) (S : Nat → Bool) (L : Nat) (st : Int) (stp : Nat) : Gm := tabT C S L ++ brT st stp
noncomputable def tlp (p : Int) : Option (Int × List D × Int) → Gm
  | none => [(Str.ofString "p", .int p)]
  | some (l, r, hd) => [(Str.ofString "p", .int p), (Str.ofString "low", .int l), (Str.ofString "run", .lst r), (Str.ofString "head", .int hd)]
noncomputable def bdy13 : List Stmt := ifB (lst 13)
noncomputable def b13 (i : Nat) : Stmt := bdy13.getD i (.Pass default)
theorem item_last {l : List Nat} {c : Nat} : itemD (.str (strOf (l ++ [c]))) (.int (-1)) = some (.str (strOf [c])) := by
  have e : Txt.charAt (strOf (l ++ [c])) (-1) = some c := by
    unfold Txt.charAt
    have hl : (strOf (l ++ [c])).length = l.length + 1 := by show (l ++ [c]).length = _; rw [List.length_append]; rfl
    rw [hl]
    have : seqIndex? (-1) (l.length + 1) = some l.length := by
      unfold seqIndex?
      dsimp only
      rw [if_pos (show (-1 : Int) < 0 by decide), if_pos]
      · congr 1
        omega
      · rw [Bool.and_eq_true]
        exact ⟨decide_eq_true (by omega), decide_eq_true (by omega)⟩
    rw [this]
    simp
  show (if fitsSsize (-1) = true ∧ (Txt.charAt (strOf (l ++ [c])) (-1)).isSome = true then some (D.str (Txt.item (strOf (l ++ [c])) (-1))) else none) = _
  unfold Txt.item
  rw [e, if_pos ⟨by decide, rfl⟩]
  rfl
theorem row_last (hL1 : 1 ≤ L) (p : Nat) : row S L p = row S (L - 1) p ++ [chS S (p + L - 1)] := by
  unfold row
  obtain ⟨m, rfl⟩ : ∃ m, L = m + 1 := ⟨L - 1, by omega⟩
  rw [List.range_succ, List.map_append]
  rfl

noncomputable def rowE13 : Expr := boL (asV (b13 1))
noncomputable def lastE13 (i : Nat) : Expr := argE i (boR (asV (b13 1)))
noncomputable def GP (C : Nat) (scr : List D) (st : Int) (L stp : Nat) (S : Nat → Bool) (k : Int) (h s v : UInt64) (b : List D) (tl : Gm) : Gm := LM scr st L stp S k h s v b (QT C S L st stp ++ tl)
theorem inS_ev {X : Nv} {n : Nat} {sc : Kd} {Γ : Gm} {l r : Expr} {px p p' : Pos} {x : Str} {c : Nat} {w : Bool} (hX : ∀ ds, X.N "int" ds = none) (hsc : kc (look sc "int") = .glo) (hm : lastMarks [.In] [r] = false) (hl : isStar (.Compare l [.In] [r] p') = false) (h1 : evE X n sc Γ l = some (.str (strOf [c]))) (h2 : evE X n sc Γ r = some (.str x)) (h3 : Txt.contains x (strOf [c]) = w) :
    evE X (n + 2) sc Γ (.Call (.Name "int" px) [.Compare l [.In] [r] p'] [] p) = some (bD w) := by
  refine evE_prim rfl hsc (each_cons (d := .bool w) (ds := []) hl (evE_cmp1 hm h1 h2 (by show some (Txt.contains x (strOf [c])) = some w; rw [h3])) rfl) (hX _) (pr := (.int, .type "int")) rfl ?_
  cases w <;> rfl
theorem bits_split (S : Nat → Bool) (L p : Nat) : bitsW S L p = ((List.range L).map fun i => S (p + 3 + i)) ++ [S (p + 3 + L), S (p + 3 + (L + 1))] := by
  unfold bitsW
  rw [List.range_succ, List.range_succ, List.append_assoc, List.map_append]
  rfl

noncomputable def pT (p : Nat) (bk : Gm) : Gm := (Str.ofString "p", .int p) :: bk
noncomputable def lT (r stp p : Nat) (bk : Gm) : Gm := (Str.ofString "p", .int p) :: (Str.ofString "low", .int (lowN r stp p)) :: bk
noncomputable def rT (S : Nat → Bool) (L r stp p : Nat) (bk : Gm) : Gm := (Str.ofString "p", .int p) :: (Str.ofString "low", .int (lowN r stp p)) :: (Str.ofString "run", .lst ((bitsW S L p).map bD)) :: bk
noncomputable def hT (S : Nat → Bool) (L r stp p : Nat) : Gm := [(Str.ofString "p", .int p), (Str.ofString "low", .int (lowN r stp p)), (Str.ofString "run", .lst ((bitsW S L p).map bD)), (Str.ofString "head", .int (hdN r stp p))]
theorem e13_0 {p : Nat} {bk : Gm} (hr : st % stp = r) (hs1 : 1 ≤ stp) : evE (X14 C p1 p2) 12 lsc (GP C scr st L stp S k h s v b (pT p bk)) (asV (b13 0)) = some (.int (lowN r stp p)) := by
  refine (evE_bin (a := .int (st % stp + p)) (b := .int stp) (by kernel_rfl) (by kernel_rfl) (mod_D (by omega))).trans ?_
  rw [hr, Int.fmod_eq_emod_of_nonneg _ (by omega)]
  rfl
theorem e13_row {p : Nat} {bk : Gm} (hp : p < 16) {px pv pp : Pos} {n : Nat} : evE (X14 C p1 p2) (n + 2) lsc (GP C scr st L stp S k h s v b (lT r stp p bk)) (.Subscript (.Name "rows" px) (.Name "p" pv) pp) = some (.str (strOf (row S L p))) :=
  evE_item (a := .lst (rowsD S L)) (b := .int p) rfl (by kernel_rfl) (by kernel_rfl) (rows_item hp)
theorem last_4 {p : Nat} : ∀ {L : Nat}, 1 ≤ L → p + 4 + (L - 1) = p + 3 + L
  | l + 1, _ => Nat.add_right_comm (p + 3) 1 l
theorem last_5 {p : Nat} : ∀ {L : Nat}, 1 ≤ L → p + 5 + (L - 1) = p + 3 + (L + 1)
  | l + 1, _ => Nat.add_right_comm (p + 3) 2 l
theorem e13_1 {p : Nat} {bk : Gm} (hL1 : 1 ≤ L) (hL : L ≤ 8) (hp : p < 16) (hnd : ∀ i, i < 15 + L → Nd (S (i + 3)) (S (i + 4)) (S (i + 5))) :
    evE (X14 C p1 p2) 12 lsc (GP C scr st L stp S k h s v b (lT r stp p bk)) (asV (b13 1)) = some (.lst ((bitsW S L p).map bD)) := by
  have hlast : ∀ i, i < L → inA (chS S (p + i)) = S (p + 3 + i) ∧ inB (chS S (p + i)) = S (p + 4 + i) ∧ inC (chS S (p + i)) = S (p + 5 + i) := fun i hi => by
    rw [Nat.add_right_comm p 3 i, Nat.add_right_comm p 4 i, Nat.add_right_comm p 5 i]
    exact inLet _ _ _ (hnd (p + i) (Nat.add_lt_add_of_le_of_lt (Nat.le_of_lt_succ hp) hi))
  have item : ∀ {n : Nat} {px pv pp pq pr pn : Pos} {kk0 : Nat}, evE (X14 C p1 p2) (n + 3) lsc (GP C scr st L stp S k h s v b (lT r stp p bk)) (.Subscript (.Subscript (.Name "rows" px) (.Name "p" pv) pp) (.UnaryOp .USub (.Constant (.int 1) kk0 pn) pr) pq) = some (.str (strOf [chS S (p + L - 1)])) := by
    intro n px pv pp pq pr pn kk0
    refine evE_item (b := .int (-1)) rfl (e13_row hp) (by kernel_rfl) ?_
    rw [row_last hL1]; exact item_last
  have hc := conA (chS S (p + L - 1)) (letC_ltr _ _ _)
  have hl1 := hlast (L - 1) (Nat.sub_lt hL1 Nat.one_pos)
  rw [← Nat.add_sub_assoc hL1 p] at hl1
  refine (evE_bin (a := .lst ((row S L p).map fun c => bD (inA c))) (b := .lst [bD (S (p + 3 + L)), bD (S (p + 3 + (L + 1)))]) ?_ ?_ (addL_D (by rw [List.length_map, row_len]; show L + 2 ≤ 1000; omega))).trans ?_
  · refine evE_comp (d := .str (strOf (row S L p))) rfl rfl (by kernel_rfl) (e13_row hp) (iter_l (row_ltr S L p)) (compL_all (f := fun c : Nat => D.str (strOf [c])) (g := fun c => bD (inA c)) fun c hcm => ?_) (by rw [List.length_map, row_len]; exact Nat.ble_eq_true_of_le (by omega))
    refine ⟨put (freeG (GP C scr st L stp S k h s v b (lT r stp p bk)) (compS rowE13)) "sign" (.str (strOf [c])), by kernel_rfl, rfl, compI_nil ?_⟩
    exact inS_ev (x := "abf") (fun ds => by kernel_rfl) rfl rfl rfl (by kernel_rfl) (by kernel_rfl) (conA c (row_ltr S L p c hcm)).1
  · refine evE_lst (each_cons rfl ?_ (each_cons (ds := []) rfl ?_ rfl)) rfl
    · refine inS_ev (x := "bcd") (fun ds => by kernel_rfl) rfl rfl rfl item (by kernel_rfl) ?_
      rw [hc.2.1, hl1.2.1, last_4 hL1]
    · refine inS_ev (x := "def") (fun ds => by kernel_rfl) rfl rfl rfl item (by kernel_rfl) ?_
      rw [hc.2.2, hl1.2.2, last_5 hL1]
  · rw [bits_split, List.map_append]
    congr 3
    unfold row
    rw [List.map_map, List.map_map]
    refine List.map_congr_left fun i hi => ?_
    exact congrArg bD (hlast i (List.mem_range.mp hi)).1

/-- what the run's own lesson says -/
noncomputable def RestOk (C p1 p2 stp kk : Nat) : Prop := ∀ run : List Bool, 1 ≤ run.length → run.length ≤ 10 → (X14 C p1 p2).N "_law_rest" [.lst (run.map bD), .int stp] = some (.int (restR kk run))
theorem restOk1 : RestOk C p1 p2 1 0 := fun run h0 h1 => orN_old (orN_old (orN_new (by kernel_rfl) (rsN_eq h0 h1)))
theorem rsN_ne {k : Nat} {st s : Int} {run : List Bool} (h : (s == st) = false) : rsN k st [.lst (run.map bD), .int s] = none := by
  show (match s == st with
    | true => match bitsOf (run.map bD) with
      | some l => match Nat.ble 1 l.length && Nat.ble l.length 10 with
        | true => some (D.int (restR k l))
        | false => none
      | none => none
    | false => none) = _
  rw [h]
theorem restOk2 : RestOk C p1 p2 2 1 := fun run h0 h1 => orN_old (orN_new (by
  have n0 : (X11 C p1 p2).N "_law_rest" [.lst (run.map bD), .int (2 : Nat)] = none := by kernel_rfl
  simp only [X12, orN, n0, atN_self]; exact rsN_ne (by decide)) (rsN_eq h0 h1))
theorem restOk4 : RestOk C p1 p2 4 2 := fun run h0 h1 => orN_new (by
  have n0 : (X11 C p1 p2).N "_law_rest" [.lst (run.map bD), .int (4 : Nat)] = none := by kernel_rfl
  have n1 : (X12 C p1 p2).N "_law_rest" [.lst (run.map bD), .int (4 : Nat)] = none := by simp only [X12, orN, n0, atN_self]; exact rsN_ne (by decide)
  simp only [X13, orN, n1, atN_self]; exact rsN_ne (by decide)) (rsN_eq h0 h1)
theorem bitsW_len (S : Nat → Bool) (L p : Nat) : (bitsW S L p).length = L + 2 := by unfold bitsW; rw [List.length_map, List.length_range]
theorem e13_2 {p : Nat} {bk : Gm} (hL : L ≤ 8) (hro : RestOk C p1 p2 stp kk) (hc : restR kk (bitsW S L p) = lowN r stp p) :
    evE (X14 C p1 p2) 12 lsc (GP C scr st L stp S k h s v b (rT S L r stp p bk)) (asV (b13 2)) = some (.bool false) := by
  refine evE_cmp1 (a := .int (lowN r stp p)) (b := .int (lowN r stp p)) rfl (evE_call rfl rfl (each_cons (d := .lst ((bitsW S L p).map bD)) rfl (by kernel_rfl) (each_cons (d := .int stp) (ds := []) rfl (by kernel_rfl) rfl)) ?_) (by kernel_rfl) ?_
  · rw [← hc]; exact hro _ (by rw [bitsW_len]; omega) (by rw [bitsW_len]; omega)
  · show some (!((lowN r stp p : Int) == (lowN r stp p : Int))) = _
    rw [beq_self_eq_true]; rfl
theorem hd_lin {r u st w p y z : Int} (h1 : r + u = st) (h2 : y + w = r + p) (h3 : z = 3 + p) : u - st + 3 + w = z - y := by omega
theorem hd_lt {L r stp p i : Nat} (hp : p < 16) (hs1 : 1 ≤ stp) (hs : stp ≤ 4) (hi : i < cntN L r stp p) : hdN r stp p + stp * i < 20 + L := by
  have h1 : stp * ((lowN r stp p + L + 1) / stp) ≤ lowN r stp p + L + 1 := Nat.mul_div_le _ _
  have h2 : stp * i ≤ stp * ((lowN r stp p + L + 1) / stp) := Nat.mul_le_mul_left _ (Nat.le_of_lt_succ hi)
  have h := Nat.le_trans h2 h1
  have hy : lowN r stp p < 4 := Nat.lt_of_lt_of_le (Nat.mod_lt _ hs1) hs
  unfold hdN
  generalize stp * i = x at *
  generalize lowN r stp p = y at *
  clear h1 h2 hi hs1 hs
  omega
theorem hd_eq {p : Nat} (hr : st % stp = r) (hs1 : 1 ≤ stp) (hs : stp ≤ 4) : st / stp * stp - st + 3 + ((r : Int) + p).fdiv stp * stp = ((hdN r stp p : Nat) : Int) := by
  have h1 := Int.emod_add_mul_ediv st stp
  have h2 := Nat.mod_add_div (r + p) stp
  have h3 := Nat.mod_lt (r + p) (by omega : stp > 0)
  rw [Int.fdiv_eq_ediv_of_nonneg _ (by omega)]
  have e1 : (((r : Int) + p) / stp) = (((r + p) / stp : Nat) : Int) := rfl
  rw [e1]
  unfold hdN lowN
  have e2 : ((((r + p) / stp : Nat) : Int) * stp) = ((stp * ((r + p) / stp) : Nat) : Int) := by rw [Int.natCast_mul, Int.mul_comm]
  rw [e2, Int.mul_comm (st / stp)]
  rw [hr] at h1
  rw [Int.natCast_sub (Nat.le_trans (Nat.le_of_lt_succ (Nat.lt_of_lt_of_le h3 hs)) (Nat.le_add_right 3 p))]
  exact hd_lin (p := (p : Int)) (r := (r : Int)) h1 (by rw [← Int.natCast_add, h2]; rfl) rfl
theorem e13_3 {p : Nat} {bk : Gm} (hr : st % stp = r) (hs1 : 1 ≤ stp) (hs : stp ≤ 4) : evE (X14 C p1 p2) 12 lsc (GP C scr st L stp S k h s v b (rT S L r stp p bk)) (asV (b13 3)) = some (.int (hdN r stp p)) := by
  have hb : Builtin.Int.intBits (stp : Int) ≤ 64 := Nat.le_trans (intBits_nat (n := stp) (k := 3) (by omega)) (by decide)
  rw [← hd_eq (p := p) hr hs1 hs]
  refine evE_bin (a := .int (st / stp * stp - st + 3)) (b := .int (((r : Int) + p).fdiv stp * stp)) (evE_bin (a := .int (st / stp * stp - st)) (b := .int 3) (evE_bin (a := .int (st / stp * stp)) (b := .int st) (evE_bin (a := .int (st / stp)) (b := .int stp) (by kernel_rfl) (by kernel_rfl) (mul_D hb)) (by kernel_rfl) rfl) (by kernel_rfl) rfl)
    (evE_bin (a := .int (((r : Int) + p).fdiv stp)) (b := .int stp) (evE_bin (a := .int ((r : Int) + p)) (b := .int stp) ?_ (by kernel_rfl) (fdv_D (by omega) (nat9 (by omega)))) (by kernel_rfl) (mul_D hb)) rfl
  rw [← hr]
  kernel_rfl
noncomputable def appE : Expr := match b13 4 with
  | .Expr (.Call _ [a] _ _) _ => a
  | _ => .Constant .none 0 default
theorem e13_4 {p : Nat} (hL : L ≤ 8) (hp : p < 16) (hs1 : 1 ≤ stp) (hs : stp ≤ 4) : evE (X14 C p1 p2) 12 lsc (GP C scr st L stp S k h s v b (hT S L r stp p)) appE = some (keyD S L r stp p) := by
  have hlow : lowN r stp p < stp := Nat.mod_lt _ (by omega)
  have hcnt : cntN L r stp p ≤ 13 := by
    unfold cntN
    have := Nat.div_le_self (lowN r stp p + L + 1) stp
    omega
  refine (evE_bin (a := .lst [.int (lowN r stp p)]) (b := .lst ((List.range (cntN L r stp p)).map fun i => .flt (fB (S (hdN r stp p + stp * i))))) (by kernel_rfl) ?_ (addL_D (by rw [List.length_map, List.length_range]; show 1 + cntN L r stp p ≤ 1000; omega))).trans ?_
  · refine evE_comp (d := .rng 0 (cntN L r stp p)) rfl rfl (by kernel_rfl) (evE_prim rfl rfl (each_cons (d := .int (cntN L r stp p)) (ds := []) rfl ?_ rfl) (by kernel_rfl) (pr := (.range, .type "range")) (by kernel_rfl) rfl) (range_iter (by omega)) (compL_all (f := fun i : Nat => D.int (i : Int)) (g := fun i => .flt (fB (S (hdN r stp p + stp * i)))) fun i hi => ?_) (by rw [List.length_map, List.length_range]; exact Nat.ble_eq_true_of_le (by omega))
    · refine (evE_bin (a := .int (((lowN r stp p + L + 1 : Nat) : Int).fdiv stp)) (b := .int 1) (evE_bin (a := .int ((lowN r stp p + L + 1 : Nat) : Int)) (b := .int stp) (by kernel_rfl) (by kernel_rfl) (fdv_D (by omega) (nat9 (by omega)))) (by kernel_rfl) rfl).trans ?_
      rw [Int.fdiv_eq_ediv_of_nonneg _ (by omega)]
      rfl
    · have hi := List.mem_range.mp hi
      have hle := hd_lt hp hs1 hs hi
      have hb : Builtin.Int.intBits (i : Int) ≤ 64 := Nat.le_trans (intBits_nat (n := i) (k := 4) (by omega)) (by decide)
      refine ⟨put (freeG (GP C scr st L stp S k h s v b (hT S L r stp p)) (compS (boR appE))) "i" (.int i), by kernel_rfl, rfl, compI_nil ?_⟩
      exact evE_item (a := .lst (shD S (20 + L))) (b := .int ((hdN r stp p + stp * i : Nat) : Int)) rfl (by kernel_rfl) (evE_bin (a := .int (hdN r stp p)) (b := .int ((stp : Int) * i)) (by kernel_rfl) (evE_bin (a := .int stp) (b := .int i) (by kernel_rfl) (by kernel_rfl) (mul_D hb)) (by rw [← Int.natCast_mul]; rfl)) (item_sh hle (by omega))
  · unfold keyD keyL
    rw [List.map_map]
    rfl
end Mine

end
section
open PySem PySem.W PyProof.Rows
set_option Elab.async false
set_option maxRecDepth 100000
set_option exponentiation.threshold 10000
namespace Mine

variable {C p1 p2 : Nat} {scr : List D} {st : Int} {L stp r kk : Nat} {S : Nat → Bool} {k : Int} {h s v : UInt64} {b : List D}
noncomputable def bk1 (S : Nat → Bool) (L r stp : Nat) : Option Nat → Gm
  | none => []
  | some m => [(Str.ofString "low", .int (lowN r stp m)), (Str.ofString "run", .lst ((bitsW S L m).map bD)), (Str.ofString "head", .int (hdN r stp m))]
noncomputable def bk2 (S : Nat → Bool) (L r stp : Nat) : Option Nat → Gm
  | none => []
  | some m => [(Str.ofString "run", .lst ((bitsW S L m).map bD)), (Str.ofString "head", .int (hdN r stp m))]
noncomputable def bk3 (r stp : Nat) : Option Nat → Gm
  | none => []
  | some m => [(Str.ofString "head", .int (hdN r stp m))]
noncomputable def keysO (S : Nat → Bool) (L r stp m : Nat) : Om := [(Str.ofString "keys", OD.lst ((List.range m).map (keyD S L r stp)))]
theorem turn13 {p : Nat} (o : Option Nat) (hL1 : 1 ≤ L) (hL : L ≤ 8) (hp : p < 16) (hnd : ∀ i, i < 15 + L → Nd (S (i + 3)) (S (i + 4)) (S (i + 5))) (hr : st % stp = r) (hs1 : 1 ≤ stp) (hs : stp ≤ 4) (hro : RestOk C p1 p2 stp kk) (hc : restR kk (bitsW S L p) = lowN r stp p) :
    evSs (lrec C p1 p2 11) lsc bdy13 (GP C scr st L stp S k h s v b (pT p (bk1 S L r stp o))) (keysO S L r stp p) = some (.nxt, GP C scr st L stp S k h s v b (hT S L r stp p), keysO S L r stp (p + 1)) := by
  have c0 : lrec C p1 p2 11 lsc (GP C scr st L stp S k h s v b (pT p (bk1 S L r stp o))) (keysO S L r stp p) (b13 0) = some (.nxt, GP C scr st L stp S k h s v b (lT r stp p (bk2 S L r stp o)), keysO S L r stp p) :=
    (evS_asg rfl rfl rfl (e13_0 hr hs1)).trans (by cases o <;> kernel_rfl)
  have c1 : lrec C p1 p2 11 lsc (GP C scr st L stp S k h s v b (lT r stp p (bk2 S L r stp o))) (keysO S L r stp p) (b13 1) = some (.nxt, GP C scr st L stp S k h s v b (rT S L r stp p (bk3 r stp o)), keysO S L r stp p) :=
    (evS_asg rfl rfl rfl (e13_1 hL1 hL hp hnd)).trans (by cases o <;> kernel_rfl)
  have c2 : lrec C p1 p2 11 lsc (GP C scr st L stp S k h s v b (rT S L r stp p (bk3 r stp o))) (keysO S L r stp p) (b13 2) = some (.nxt, GP C scr st L stp S k h s v b (rT S L r stp p (bk3 r stp o)), keysO S L r stp p) :=
    (evS_IfH (c := false) rfl (testD_of (e13_2 hL hro hc) rfl)).trans rfl
  have c3 : lrec C p1 p2 11 lsc (GP C scr st L stp S k h s v b (rT S L r stp p (bk3 r stp o))) (keysO S L r stp p) (b13 3) = some (.nxt, GP C scr st L stp S k h s v b (hT S L r stp p), keysO S L r stp p) :=
    (evS_asg rfl rfl rfl (e13_3 hr hs1 hs)).trans (by cases o <;> kernel_rfl)
  have c4 : lrec C p1 p2 11 lsc (GP C scr st L stp S k h s v b (hT S L r stp p)) (keysO S L r stp p) (b13 4) = some (.nxt, GP C scr st L stp S k h s v b (hT S L r stp p), keysO S L r stp (p + 1)) := by
    refine (evS_app (ds := (List.range p).map (keyD S L r stp)) rfl rfl rfl rfl rfl rfl rfl (by kernel_rfl) (e13_4 hL hp hs1 hs) (by rw [List.length_map, List.length_range]; exact Nat.ble_eq_true_of_le (by omega))).trans ?_
    unfold keysO
    rw [List.range_succ, List.map_append]
    rfl
  exact (evSs_cons c0).trans ((evSs_cons c1).trans ((evSs_cons c2).trans ((evSs_cons c3).trans ((evSs_cons c4).trans rfl))))
theorem loop13 (hL1 : 1 ≤ L) (hL : L ≤ 8) (hnd : ∀ i, i < 15 + L → Nd (S (i + 3)) (S (i + 4)) (S (i + 5))) (hr : st % stp = r) (hs1 : 1 ≤ stp) (hs : stp ≤ 4) (hro : RestOk C p1 p2 stp kk) (hc : ∀ p, p < 16 → restR kk (bitsW S L p) = lowN r stp p) :
    ∃ m, evS noHk (evE (X14 C p1 p2) 12) 9 12 lsc (GP C scr st L stp S k h s v b []) (keysO S L r stp 0) (lst 13) = some (.nxt, GP C scr st L stp S k h s v b (hT S L r stp m), keysO S L r stp 16) := by
  have loop := forD_pre (sc := lsc) (t := forT (lst 13)) (body := evSs (lrec C p1 p2 11) lsc bdy13) (f := fun i : Nat => D.int (i : Int))
    (fun done Γ Ω => Ω = keysO S L r stp done.length ∧ ((done = [] ∧ Γ = GP C scr st L stp S k h s v b []) ∨ ∃ m, Γ = GP C scr st L stp S k h s v b (hT S L r stp m)))
    (List.range 16) ?_ (List.range 16) [] (GP C scr st L stp S k h s v b []) (keysO S L r stp 0) rfl ⟨rfl, .inl ⟨rfl, rfl⟩⟩
  · obtain ⟨Γ2, Ω2, l1, rfl, hΓ⟩ := loop
    rw [List.length_range] at l1
    rcases hΓ with ⟨e, _⟩ | ⟨m, rfl⟩
    · cases e
    · exact ⟨m, (evS_ForH (d := .rng 0 ((16 : Nat) : Int)) rfl rfl (by kernel_rfl) (range_iter (by omega))).trans l1⟩
  · rintro done i rest Γ Ω hd ⟨rfl, hΓ⟩
    obtain ⟨rfl, hi⟩ := pre_range hd
    have key : ∃ o, bindT lsc (forT (lst 13)) (.int (done.length : Int)) Γ = some (GP C scr st L stp S k h s v b (pT done.length (bk1 S L r stp o))) := by
      rcases hΓ with ⟨_, rfl⟩ | ⟨m, rfl⟩
      · exact ⟨none, by kernel_rfl⟩
      · exact ⟨some m, by kernel_rfl⟩
    obtain ⟨o, hb⟩ := key
    refine ⟨_, _, _, hb, turn13 o hL1 hL hi hnd hr hs1 hs hro (hc _ hi), by rw [List.length_append]; rfl, .inr ⟨_, rfl⟩⟩
end Mine

end
section
open PySem PySem.W PyProof.Rows
set_option Elab.async false
set_option maxRecDepth 100000
set_option exponentiation.threshold 10000
namespace Mine

section
variable {X : Nv} {n : Nat} {sc : Kd} {Γ : Gm}
theorem evE_and2 {a c : Expr} {p : Pos} {x y : Bool} (h1 : evE X n sc Γ a = some (.bool x)) (h2 : x = true → evE X n sc Γ c = some (.bool y)) : evE X (n + 1) sc Γ (.BoolOp .And [a, c] p) = some (.bool (x && y)) := by
  show boolD (evE X n sc Γ) .And [a, c] = _
  unfold boolD
  rw [h1]; dsimp only [truth]
  cases x
  · rfl
  · unfold boolD
    rw [h2 rfl]; rfl
end
variable {C p1 p2 : Nat} {scr : List D} {st : Int} {L stp r kk : Nat} {S : Nat → Bool} {k : Int} {h s v : UInt64} {b : List D}
noncomputable def tld (S : Nat → Bool) (L p : Nat) : List Nat := (List.range 16).filter fun q => row S L q == row S L p
noncomputable def kq (S : Nat → Bool) (L r stp q p : Nat) : Bool := lowN r stp q == lowN r stp p && keyL S L r stp q == keyL S L r stp p
noncomputable def far (L q p : Nat) : Bool := q != p && decide ((if (q : Int) - p < 0 then -((q : Int) - p) else (q : Int) - p) < (L : Int) + 2)
noncomputable def intL (l : List Nat) : List D := l.map fun (q : Nat) => D.int (q : Int)
noncomputable def bdy14 : List Stmt := ifB (lst 14)
noncomputable def b14 (i : Nat) : Stmt := bdy14.getD i (.Pass default)
theorem eqAll_cons {f : D → D → Option Bool} {x y : D} {xs ys : List D} {a b : Bool} (h1 : f x y = some a) (h2 : eqAll f xs ys = some b) : eqAll f (x :: xs) (y :: ys) = some (a && b) := by
  show (match f x y with
    | some a => match eqAll f xs ys with
      | some b => some (a && b)
      | none => none
    | none => none) = _
  rw [h1]; dsimp only; rw [h2]
theorem eq_ints {n : Nat} : ∀ l : List Nat, eqAll (eqD (n + 1)) (intL l) (intL l) = some true
  | [] => rfl
  | q :: l => (eqAll_cons (a := true) (b := true) (by show some ((q : Int) == (q : Int)) = _; rw [beq_self_eq_true]) (eq_ints l)).trans rfl
theorem ne_ints (l : List Nat) : cmpD .NotEq (.lst (intL l)) (.lst (intL l)) = some false := by
  have : eqD 8 (.lst (intL l)) (.lst (intL l)) = some true := by
    show (if (intL l).length = (intL l).length then eqAll (eqD 7) (intL l) (intL l) else some false) = _
    rw [if_pos rfl]; exact eq_ints l
  show (match eqD 8 (.lst (intL l)) (.lst (intL l)) with
    | some r => some (!r)
    | none => none) = _
  rw [this]; rfl
theorem eq_flts {n : Nat} : ∀ {l m : List Bool}, l.length = m.length → eqAll (eqD (n + 1)) (l.map fun b => D.flt (fB b)) (m.map fun b => D.flt (fB b)) = some (l == m)
  | [], [], _ => rfl
  | a :: l, c :: m, hl => by
    exact eqAll_cons (by cases a <;> cases c <;> kernel_rfl) (eq_flts (n := n) (l := l) (m := m) (by simpa using hl))
theorem eq_keys (q p : Nat) : cmpD .Eq (keyD S L r stp q) (keyD S L r stp p) = some (kq S L r stp q p) := by
  show (if (D.int (lowN r stp q) :: (keyL S L r stp q).map fun b => D.flt (fB b)).length = (D.int (lowN r stp p) :: (keyL S L r stp p).map fun b => D.flt (fB b)).length then eqAll (eqD 7) (D.int (lowN r stp q) :: (keyL S L r stp q).map fun b => D.flt (fB b)) (D.int (lowN r stp p) :: (keyL S L r stp p).map fun b => D.flt (fB b)) else some false) = _
  unfold kq
  by_cases hl : (keyL S L r stp q).length = (keyL S L r stp p).length
  · rw [if_pos (by simp only [List.length_cons, List.length_map, hl])]
    refine eqAll_cons (show some (((lowN r stp q : Nat) : Int) == ((lowN r stp p : Nat) : Int)) = _ from ?_) (eq_flts hl)
    congr 1
    rw [Bool.eq_iff_iff, beq_iff_eq, beq_iff_eq]
    omega
  · rw [if_neg (by simp only [List.length_cons, List.length_map]; omega)]
    have : (keyL S L r stp q == keyL S L r stp p) = false := by
      rw [beq_eq_false_iff_ne]
      intro e; exact hl (congrArg List.length e)
    rw [this, Bool.and_false]

noncomputable def it14 : Expr := match asV (b14 0) with
  | .ListComp _ (g :: _) _ _ => g.iter
  | e => e
noncomputable def nm14 (S : Nat → Bool) (L p : Nat) : List Nat := cond (p % 2 == 1) (row S L p) (upL (row S L p))
theorem nm_lower (S : Nat → Bool) (L p : Nat) : Txt.lower (strOf (nm14 S L p)) = strOf (row S L p) := by
  unfold nm14
  cases p % 2 == 1
  · exact lower_u (row_ltr S L p)
  · exact lower_l (row_ltr S L p)
theorem e14_row {p : Nat} {bk : Gm} (hp : p < 16) {px pv pp : Pos} {n : Nat} : evE (X14 C p1 p2) (n + 2) lsc (GP C scr st L stp S k h s v b (pT p bk)) (.Subscript (.Name "rows" px) (.Name "p" pv) pp) = some (.str (strOf (row S L p))) :=
  evE_item (a := .lst (rowsD S L)) (b := .int p) rfl (by kernel_rfl) (by kernel_rfl) (rows_item hp)
theorem e14_it {p : Nat} {bk : Gm} (hL1 : 1 ≤ L) (hL : L ≤ 8) (hp : p < 16) : evE (X14 C p1 p2) 11 lsc (GP C scr st L stp S k h s v b (pT p bk)) it14 = some (.lst ((tld S L p).map fun q => D.str (strP q))) := by
  refine evE_methX (mn := "get_all") (d := .hdr C ((psT S L).map pD)) (ds := [.str (strOf (nm14 S L p))]) rfl rfl rfl rfl (by kernel_rfl) (each_cons rfl ?_ rfl) ?_
  · refine evE_if (c := .int ((p : Int).fmod 2)) (v := p % 2 == 1) (by kernel_rfl) (tst_mod p) ?_
    unfold nm14
    cases p % 2 == 1
    · refine (evE_meth (mn := "upper") rfl rfl rfl (d := .str (strOf (row S L p))) (ds := []) (e14_row hp) rfl (up_D ?_)).trans (by rw [upper_l (row_ltr S L p)]; rfl)
      rw [upper_l (row_ltr S L p)]
      show ((row S L p).map (· - 32)).length ≤ 1000
      rw [List.length_map, row_len]; omega
    · exact e14_row hp
  · have hl := nm_lower S L p
    refine (getM_ev hL hl (lt_mem (row_ltr S L p)) (by rw [row_len]; omega)).trans ?_
    have e2 : (row S (L + 1) 0 == row S L p) = false := by
      rw [beq_eq_false_iff_ne]
      intro e
      have := congrArg List.length e
      rw [row_len, row_len] at this
      omega
    rw [getL_eq hL hl, e2]
    simp only [cond, List.append_nil]
    rfl
theorem tld_lt {p q : Nat} (h : q ∈ tld S L p) : q < 16 := List.mem_range.mp (List.mem_filter.mp h).1
theorem tld_len (p : Nat) : (tld S L p).length ≤ 16 := Nat.le_trans (List.length_filter_le _ _) (by rw [List.length_range]; omega)
theorem e14_0 {p : Nat} {bk : Gm} (hL1 : 1 ≤ L) (hL : L ≤ 8) (hp : p < 16) : evE (X14 C p1 p2) 12 lsc (GP C scr st L stp S k h s v b (pT p bk)) (asV (b14 0)) = some (.lst (intL (tld S L p))) := by
  refine evE_comp (d := .lst ((tld S L p).map fun q => D.str (strP q))) rfl rfl (by kernel_rfl) (e14_it hL1 hL hp) rfl (compL_all (f := fun q => D.str (strP q)) (g := fun q : Nat => D.int (q : Int)) fun q hq => ?_) (by unfold intL; rw [List.length_map]; exact Nat.ble_eq_true_of_le (Nat.le_trans (tld_len p) (by omega)))
  refine ⟨put (freeG (GP C scr st L stp S k h s v b (pT p bk)) (compS (asV (b14 0)))) "text" (.str (strP q)), by kernel_rfl, rfl, compI_nil ?_⟩
  exact evE_prim rfl rfl (each_cons (d := .str (strP q)) (ds := []) rfl (by kernel_rfl) rfl) (by kernel_rfl) (pr := (.int, .type "int")) (by kernel_rfl) (strP_int q (tld_lt hq))
/-- what stands behind p -/
noncomputable def sT (S : Nat → Bool) (L r stp m : Nat) (tl : Gm) : Gm := bk1 S L r stp (some m) ++ tl
noncomputable def tkT (t : List D) (S : Nat → Bool) (L r stp : Nat) : Gm := [(Str.ofString "told", .lst t), (Str.ofString "keys", .lst ((List.range 16).map (keyD S L r stp)))]
noncomputable def cR14 : Expr := cmpR (asV (b14 1))
theorem keys_item {q : Nat} (hq : q < 16) : itemD (.lst ((List.range 16).map (keyD S L r stp))) (.int (q : Int)) = some (keyD S L r stp q) := item_lst (rget hq) (by omega)
theorem e14_1 {p m : Nat} (hp : p < 16) (hc : ∀ q, q < 16 → (row S L q == row S L p) = kq S L r stp q p) : evE (X14 C p1 p2) 12 lsc (GP C scr st L stp S k h s v b (pT p (sT S L r stp m (tkT (intL (tld S L p)) S L r stp)))) (asV (b14 1)) = some (.bool false) := by
  refine evE_cmp1 (a := .lst (intL (tld S L p))) (b := .lst (intL (tld S L p))) rfl (by kernel_rfl) ?_ (ne_ints _)
  have e : tld S L p = (List.range 16).filter fun q => kq S L r stp q p := List.filter_congr fun q hq => hc q (List.mem_range.mp hq)
  generalize hG : GP C scr st L stp S k h s v b (pT p (sT S L r stp m (tkT (intL (tld S L p)) S L r stp))) = G'
  rw [e]
  subst hG
  refine evE_comp (d := .rng 0 ((16 : Nat) : Int)) rfl rfl (by kernel_rfl) (by kernel_rfl) (range_iter (by omega)) (compL_map (f := fun q : Nat => D.int (q : Int)) (p := fun q => kq S L r stp q p) (g := fun q : Nat => D.int (q : Int)) fun q hq => ?_) (by unfold intL; rw [List.length_map]; exact Nat.ble_eq_true_of_le (Nat.le_trans (List.length_filter_le _ _) (by rw [List.length_range]; omega)))
  have hq := List.mem_range.mp hq
  refine ⟨put (freeG (GP C scr st L stp S k h s v b (pT p (sT S L r stp m (tkT (intL (tld S L p)) S L r stp)))) (compS cR14)) "q" (.int q), by kernel_rfl, ?_, fun _ => compI_nil (by kernel_rfl)⟩
  refine testsD_one (evE_cmp1 (a := keyD S L r stp q) (b := keyD S L r stp p) rfl ?_ ?_ (eq_keys q p))
  · exact evE_item (a := .lst ((List.range 16).map (keyD S L r stp))) (b := .int q) rfl (by kernel_rfl) (by kernel_rfl) (keys_item hq)
  · exact evE_item (a := .lst ((List.range 16).map (keyD S L r stp))) (b := .int p) rfl (by kernel_rfl) (by kernel_rfl) (keys_item hp)
noncomputable def cR14b : Expr := match asV (b14 2) with
  | .Compare l _ _ _ => l
  | e => e
theorem e14_2 {p m : Nat} (hc : ∀ q, q ∈ tld S L p → far L q p = false) : evE (X14 C p1 p2) 12 lsc (GP C scr st L stp S k h s v b (pT p (sT S L r stp m (tkT (intL (tld S L p)) S L r stp)))) (asV (b14 2)) = some (.bool false) := by
  refine evE_cmp1 (a := .lst []) (b := .lst []) rfl ?_ (by kernel_rfl) (by kernel_rfl)
  refine (evE_comp (d := .lst (intL (tld S L p))) (out := ((tld S L p).filter fun q => far L q p).map fun (q : Nat) => D.int (q : Int)) rfl rfl (by kernel_rfl) (by kernel_rfl) rfl (compL_map (f := fun q : Nat => D.int (q : Int)) (p := fun q => far L q p) (g := fun q : Nat => D.int (q : Int)) fun q hq => ?_) ?_).trans ?_
  · refine ⟨put (freeG (GP C scr st L stp S k h s v b (pT p (sT S L r stp m (tkT (intL (tld S L p)) S L r stp)))) (compS cR14b)) "q" (.int q), by kernel_rfl, ?_, fun _ => compI_nil (by kernel_rfl)⟩
    refine testsD_one ?_
    unfold far
    refine evE_and2 ?_ fun _ => by kernel_rfl
    refine evE_cmp1 (a := .int q) (b := .int p) rfl (by kernel_rfl) (by kernel_rfl) ?_
    show some (!((q : Int) == (p : Int))) = some (!(q == p))
    congr 2
    rw [Bool.eq_iff_iff, beq_iff_eq, beq_iff_eq]
    omega
  · rw [List.length_map]; exact Nat.ble_eq_true_of_le (Nat.le_trans (List.length_filter_le _ _) (Nat.le_trans (tld_len p) (by omega)))
  · rw [List.filter_eq_nil_iff.mpr fun q hq => by rw [hc q hq]; exact Bool.false_ne_true]
    rfl
end Mine

end
section
open PySem PySem.W PyProof.Rows
set_option Elab.async false
set_option maxRecDepth 100000
set_option exponentiation.threshold 10000
namespace Mine

theorem testD_frz {f : Gm → Expr → Option D} {Γ : Gm} {x : Str × OD} {Ω' : Om} {e : Expr} {d : D} {b : Bool} (h0 : f Γ e = none) (h : f (frz Γ (x :: Ω')) e = some d) (hb : truth d = some b) : testD f Γ (x :: Ω') e = some (b, frz Γ (x :: Ω'), []) := by
  unfold testD; rw [evF_frz h0 h]; dsimp only; rw [hb]
variable {C p1 p2 : Nat} {scr : List D} {st : Int} {L stp r kk : Nat} {S : Nat → Bool} {k : Int} {h s v : UInt64} {b : List D}
theorem turn14 {p m : Nat} (o : Option (List D)) (hL1 : 1 ≤ L) (hL : L ≤ 8) (hp : p < 16) (hc2 : ∀ q, q < 16 → (row S L q == row S L p) = kq S L r stp q p) (hc3 : ∀ q, q ∈ tld S L p → far L q p = false) :
    evSs (lrec C p1 p2 11) lsc bdy14 (GP C scr st L stp S k h s v b (pT p (sT S L r stp m (match o with | none => [] | some t => tkT t S L r stp)))) (match o with | none => keysO S L r stp 16 | some _ => []) = some (.nxt, GP C scr st L stp S k h s v b (pT p (sT S L r stp m (tkT (intL (tld S L p)) S L r stp))), []) := by
  have c2 : lrec C p1 p2 11 lsc (GP C scr st L stp S k h s v b (pT p (sT S L r stp m (tkT (intL (tld S L p)) S L r stp)))) [] (b14 2) = some (.nxt, GP C scr st L stp S k h s v b (pT p (sT S L r stp m (tkT (intL (tld S L p)) S L r stp))), []) :=
    (evS_IfH (c := false) rfl (testD_of (e14_2 hc3) rfl)).trans rfl
  cases o with
  | none =>
    have c0 : lrec C p1 p2 11 lsc (GP C scr st L stp S k h s v b (pT p (sT S L r stp m []))) (keysO S L r stp 16) (b14 0) = some (.nxt, GP C scr st L stp S k h s v b (pT p (sT S L r stp m [(Str.ofString "told", .lst (intL (tld S L p)))])), keysO S L r stp 16) :=
      (evS_asg rfl rfl rfl (e14_0 hL1 hL hp)).trans (by kernel_rfl)
    have c1 : lrec C p1 p2 11 lsc (GP C scr st L stp S k h s v b (pT p (sT S L r stp m [(Str.ofString "told", .lst (intL (tld S L p)))]))) (keysO S L r stp 16) (b14 1) = some (.nxt, GP C scr st L stp S k h s v b (pT p (sT S L r stp m (tkT (intL (tld S L p)) S L r stp))), []) := by
      have fz : frz (GP C scr st L stp S k h s v b (pT p (sT S L r stp m [(Str.ofString "told", .lst (intL (tld S L p)))]))) (keysO S L r stp 16) = GP C scr st L stp S k h s v b (pT p (sT S L r stp m (tkT (intL (tld S L p)) S L r stp))) := by kernel_rfl
      have e1 := e14_1 (C := C) (p1 := p1) (p2 := p2) (scr := scr) (st := st) (k := k) (h := h) (s := s) (v := v) (b := b) (m := m) hp hc2
      rw [← fz] at e1
      refine ((evS_IfH (c := false) rfl (testD_frz (by kernel_rfl) e1 rfl)).trans ?_)
      show some (Fl.nxt, frz _ _, []) = _
      rw [← fz]; rfl
    exact (evSs_cons c0).trans ((evSs_cons c1).trans ((evSs_cons c2).trans rfl))
  | some t =>
    have c0 : lrec C p1 p2 11 lsc (GP C scr st L stp S k h s v b (pT p (sT S L r stp m (tkT t S L r stp)))) [] (b14 0) = some (.nxt, GP C scr st L stp S k h s v b (pT p (sT S L r stp m (tkT (intL (tld S L p)) S L r stp))), []) :=
      (evS_asg rfl rfl rfl (e14_0 hL1 hL hp)).trans (by kernel_rfl)
    have c1 : lrec C p1 p2 11 lsc (GP C scr st L stp S k h s v b (pT p (sT S L r stp m (tkT (intL (tld S L p)) S L r stp)))) [] (b14 1) = some (.nxt, GP C scr st L stp S k h s v b (pT p (sT S L r stp m (tkT (intL (tld S L p)) S L r stp))), []) :=
      (evS_IfH (c := false) rfl (testD_of (e14_1 hp hc2) rfl)).trans rfl
    exact (evSs_cons c0).trans ((evSs_cons c1).trans ((evSs_cons c2).trans rfl))
theorem loop14 {m : Nat} (hL1 : 1 ≤ L) (hL : L ≤ 8) (hc2 : ∀ p, p < 16 → ∀ q, q < 16 → (row S L q == row S L p) = kq S L r stp q p) (hc3 : ∀ p, p < 16 → ∀ q, q ∈ tld S L p → far L q p = false) :
    ∃ Γ Ω, evS noHk (evE (X14 C p1 p2) 12) 9 12 lsc (GP C scr st L stp S k h s v b (hT S L r stp m)) (keysO S L r stp 16) (lst 14) = some (.nxt, Γ, Ω) := by
  have loop := forD_pre (sc := lsc) (t := forT (lst 14)) (body := evSs (lrec C p1 p2 11) lsc bdy14) (f := fun i : Nat => D.int (i : Int))
    (fun done Γ Ω => (Ω = keysO S L r stp 16 ∧ Γ = GP C scr st L stp S k h s v b (hT S L r stp m)) ∨ (Ω = [] ∧ ∃ (p : Nat) (t : List D), Γ = GP C scr st L stp S k h s v b (pT p (sT S L r stp m (tkT t S L r stp)))))
    (List.range 16) ?_ (List.range 16) [] (GP C scr st L stp S k h s v b (hT S L r stp m)) (keysO S L r stp 16) rfl (.inl ⟨rfl, rfl⟩)
  · obtain ⟨Γ2, Ω2, l1, _⟩ := loop
    exact ⟨Γ2, Ω2, (evS_ForH (d := .rng 0 ((16 : Nat) : Int)) rfl rfl (by kernel_rfl) (range_iter (by omega))).trans l1⟩
  · rintro done i rest Γ Ω hd hΓ
    obtain ⟨rfl, hi⟩ := pre_range hd
    rcases hΓ with ⟨rfl, rfl⟩ | ⟨rfl, p, t, rfl⟩
    · exact ⟨GP C scr st L stp S k h s v b (pT done.length (sT S L r stp m [])), _, _, by kernel_rfl, turn14 none hL1 hL hi (hc2 _ hi) (hc3 _ hi), .inr ⟨rfl, _, _, rfl⟩⟩
    · exact ⟨GP C scr st L stp S k h s v b (pT done.length (sT S L r stp m (tkT t S L r stp))), _, _, by kernel_rfl, turn14 (some t) hL1 hL hi (hc2 _ hi) (hc3 _ hi), .inr ⟨rfl, _, _, rfl⟩⟩
end Mine

end
section
open PySem PySem.W PyProof.Rows
set_option Elab.async false
set_option maxRecDepth 100000
set_option exponentiation.threshold 10000
namespace Mine

variable {C p1 p2 : Nat} {xs : List Int} {st : Int} {L stp r kk : Nat} {S : Nat → Bool}
noncomputable def stpOf (L : Nat) : Nat := if L < 2 then 1 else if L < 5 then 2 else 4
noncomputable def kkOf (L : Nat) : Nat := if L < 2 then 0 else if L < 5 then 1 else 2
noncomputable def scrD (xs : List Int) : List D := xs.map D.int
noncomputable def G0 (xs : List Int) : Gm := [(Str.ofString "script", .lst (scrD xs))]
theorem sum_D (l : List Int) : primD .sum [.lst (l.map D.int)] = some (.int l.sum) := by
  show (match intsOf (l.map D.int) with
    | some l => some (D.int l.sum)
    | none => none) = _
  rw [intsOf_map]
theorem pre0 (hl : xs.length ≤ 1000) : ∃ st : Int, -(2 ^ 23) ≤ st ∧ st < 2 ^ 23 ∧ evE (X14 C p1 p2) 12 lsc (G0 xs) (asV (lst 0)) = some (.int st) := by
  refine ⟨((pick xs none none (some 2)).sum - 7 + 8388608).fmod 16777216 - 8388608, ?_, ?_, ?_⟩
  · have := Int.fmod_nonneg_of_pos ((pick xs none none (some 2)).sum - 7 + 8388608) (b := 16777216) (by decide)
    omega
  · have := Int.fmod_lt_of_pos ((pick xs none none (some 2)).sum - 7 + 8388608) (b := 16777216) (by decide)
    omega
  · refine evE_bin (a := .int (((pick xs none none (some 2)).sum - 7 + 8388608).fmod 16777216)) (b := .int 8388608) (evE_bin (a := .int ((pick xs none none (some 2)).sum - 7 + 8388608)) (b := .int 16777216) (evE_bin (a := .int ((pick xs none none (some 2)).sum - 7)) (b := .int 8388608) (evE_bin (a := .int (pick xs none none (some 2)).sum) (b := .int 7) ?_ (by kernel_rfl) rfl) (by kernel_rfl) rfl) (by kernel_rfl) (mod_D (by decide))) (by kernel_rfl) rfl
    refine evE_prim rfl rfl (each_cons (d := .lst ((pick xs none none (some 2)).map D.int)) (ds := []) rfl (evE_slice (a := .lst (scrD xs)) (l := none) (h := none) (q := some 2) (by kernel_rfl) rfl rfl (by kernel_rfl) ((slice_lst (by decide) (by unfold scrD; rw [List.length_map]; omega)).trans (by unfold scrD; rw [pick_map]))) rfl) (by kernel_rfl) (pr := (.sum, .builtin "sum")) (by kernel_rfl) (sum_D _)
theorem pre1 (hl : xs.length ≤ 1000) : ∃ L : Nat, 1 ≤ L ∧ L ≤ 8 ∧ evE (X14 C p1 p2) 12 lsc (G0 xs ++ [(Str.ofString "start", .int st)]) (asV (lst 1)) = some (.int L) := by
  have h0 := Int.fmod_nonneg_of_pos (2 + (pick xs (some 1) none (some 2)).sum) (b := 8) (by decide)
  have h1 := Int.fmod_lt_of_pos (2 + (pick xs (some 1) none (some 2)).sum) (b := 8) (by decide)
  refine ⟨(1 + (2 + (pick xs (some 1) none (some 2)).sum).fmod 8).toNat, by omega, by omega, ?_⟩
  rw [Int.toNat_of_nonneg (by omega)]
  refine evE_bin (a := .int 1) (b := .int ((2 + (pick xs (some 1) none (some 2)).sum).fmod 8)) (by kernel_rfl) (evE_bin (a := .int (2 + (pick xs (some 1) none (some 2)).sum)) (b := .int 8) (evE_bin (a := .int 2) (b := .int (pick xs (some 1) none (some 2)).sum) (by kernel_rfl) ?_ rfl) (by kernel_rfl) (mod_D (by decide))) rfl
  refine evE_prim rfl rfl (each_cons (d := .lst ((pick xs (some 1) none (some 2)).map D.int)) (ds := []) rfl (evE_slice (a := .lst (scrD xs)) (l := some 1) (h := none) (q := some 2) (by kernel_rfl) (by kernel_rfl) rfl (by kernel_rfl) ((slice_lst (by decide) (by unfold scrD; rw [List.length_map]; omega)).trans (by unfold scrD; rw [pick_map]))) rfl) (by kernel_rfl) (pr := (.sum, .builtin "sum")) (by kernel_rfl) (sum_D _)
noncomputable def Gs (xs : List Int) (st : Int) (L : Nat) : Gm := G0 xs ++ [(Str.ofString "start", .int st), (Str.ofString "length", .int L)]
theorem pre2 : ∀ L : Nat, 1 ≤ L → L ≤ 8 → evE (X14 C p1 p2) 12 lsc (Gs xs st L) (asV (lst 2)) = some (.int (stpOf L))
  | 1, _, _ => by kernel_rfl | 2, _, _ => by kernel_rfl | 3, _, _ => by kernel_rfl | 4, _, _ => by kernel_rfl | 5, _, _ => by kernel_rfl | 6, _, _ => by kernel_rfl | 7, _, _ => by kernel_rfl | 8, _, _ => by kernel_rfl
  | 0, h, _ => absurd h (by omega)
  | n + 9, _, h => absurd h (by omega)
theorem shade_N {z : Int} (h0 : -(2 ^ 24) ≤ z) (h1 : z < 2 ^ 24) : (X14 C p1 p2).N "_law_shade" [.int z] = some (.flt (fB (par z))) := by
  refine orN_old (orN_old (orN_old (orN_new (by kernel_rfl) ?_)))
  unfold shdN
  dsimp only
  rw [show Nat.ble (ndig (nat' z) 4) 64 = true from Nat.ble_eq_true_of_le ?_]
  have : nat' z < 2 ^ 24 := by unfold nat'; split <;> omega
  have := intBits_nat this
  unfold ndig
  omega
noncomputable def Gt (xs : List Int) (st : Int) (L stp : Nat) : Gm := G0 xs ++ [(Str.ofString "start", .int st), (Str.ofString "length", .int L), (Str.ofString "step", .int stp)]
noncomputable def shS (st : Int) : Nat → Bool := fun k => par (st - 3 + (k : Int))
theorem pre3 (h0 : -(2 ^ 23) ≤ st) (h1 : st < 2 ^ 23) (hL : L ≤ 8) : evE (X14 C p1 p2) 12 lsc (Gt xs st L stp) (asV (lst 3)) = some (.lst (shD (shS st) (20 + L))) := by
  refine evE_comp (d := .rng 0 ((20 + L : Nat) : Int)) rfl rfl (by kernel_rfl) (by kernel_rfl) (range_iter (by omega)) (compL_all (f := fun i : Nat => D.int (i : Int)) (g := fun i => D.flt (fB (shS st i))) fun i hi => ?_) (by unfold shD; rw [List.length_map, List.length_range]; exact Nat.ble_eq_true_of_le (by omega))
  have hi := List.mem_range.mp hi
  refine ⟨put (freeG (Gt xs st L stp) (compS (asV (lst 3)))) "k" (.int i), by kernel_rfl, rfl, compI_nil ?_⟩
  exact evE_call rfl rfl (each_cons (d := .int (st - 3 + (i : Int))) (ds := []) rfl (by kernel_rfl) rfl) (shade_N (by omega) (by omega))

/-- what the shades must be like -/
structure Fit (S : Nat → Bool) (L stp r kk : Nat) : Prop where
  nd : ∀ i, i < 15 + L → Nd (S (i + 3)) (S (i + 4)) (S (i + 5))
  c1 : ∀ p, p < 16 → restR kk (bitsW S L p) = lowN r stp p
  c2 : ∀ p, p < 16 → ∀ q, q < 16 → (row S L q == row S L p) = kq S L r stp q p
  c3 : ∀ p, p < 16 → ∀ q, q ∈ tld S L p → far L q p = false
theorem restOk : ∀ L, 1 ≤ L → L ≤ 8 → RestOk C p1 p2 (stpOf L) (kkOf L)
  | 1, _, _ => restOk1 | 2, _, _ => restOk2 | 3, _, _ => restOk2 | 4, _, _ => restOk2 | 5, _, _ => restOk4 | 6, _, _ => restOk4 | 7, _, _ => restOk4 | 8, _, _ => restOk4
  | 0, h, _ => absurd h (by omega)
  | n + 9, _, h => absurd h (by omega)
theorem stp_b (L : Nat) : 1 ≤ stpOf L ∧ stpOf L ≤ 4 := by unfold stpOf; split <;> (try split) <;> omega
theorem law_run (hl : xs.length ≤ 1000) (fit : ∀ (st : Int) (L : Nat), 1 ≤ L → L ≤ 8 → Fit (shS st) L (stpOf L) (st % stpOf L).toNat (kkOf L)) : runF (evS noHk (evE (X14 C p1 p2) 12) 9 12) (fnOf dLaw) [.lst (scrD xs)] = some (.bool true) := by
  obtain ⟨st, h0, h1, e0⟩ := pre0 (C := C) (p1 := p1) (p2 := p2) hl
  obtain ⟨L, hL1, hL, e1⟩ := pre1 (C := C) (p1 := p1) (p2 := p2) (st := st) hl
  obtain ⟨hs1, hs⟩ := stp_b L
  obtain ⟨nd, c1, c2, c3⟩ := fit st L hL1 hL
  have e2 := pre2 (C := C) (p1 := p1) (p2 := p2) (xs := xs) (st := st) L hL1 hL
  have hro := restOk (C := C) (p1 := p1) (p2 := p2) L hL1 hL
  generalize stpOf L = stp at *
  generalize kkOf L = kk at *
  have hr : st % (stp : Int) = (((st % (stp : Int)).toNat : Nat) : Int) := (Int.toNat_of_nonneg (Int.emod_nonneg _ (by omega))).symm
  generalize (st % (stp : Int)).toNat = r at *
  have e3 := pre3 (C := C) (p1 := p1) (p2 := p2) (xs := xs) (stp := stp) h0 h1 hL
  obtain ⟨k, h, s, v, b, e5⟩ := strip_loop (C := C) (p1 := p1) (p2 := p2) (scr := scrD xs) (st := st) (stp := stp) hL nd
  have e6 := rows_ev (C := C) (p1 := p1) (p2 := p2) (scr := scrD xs) (st := st) (stp := stp) (S := shS st) (k := k) (h := h) (s := s) (v := v) (b := b) hL
  have e7 := longer_ev (C := C) (p1 := p1) (p2 := p2) (scr := scrD xs) (st := st) (stp := stp) (S := shS st) (k := k) (h := h) (s := s) (v := v) (b := b) hL
  have e8 := table_ev (C := C) (p1 := p1) (p2 := p2) (scr := scrD xs) (st := st) (stp := stp) (S := shS st) (k := k) (h := h) (s := s) (v := v) (b := b) hL
  have e9 := st9 (C := C) (p1 := p1) (p2 := p2) (scr := scrD xs) (st := st) (stp := stp) (S := shS st) (k := k) (h := h) (s := s) (v := v) (b := b) hL1 hL
  have e10 := st10 (C := C) (p1 := p1) (p2 := p2) (scr := scrD xs) (L := L) (S := shS st) (k := k) (h := h) (s := s) (v := v) (b := b) h0 h1 hs1 hs
  have e11 := st11 (C := C) (p1 := p1) (p2 := p2) (scr := scrD xs) (st := st) (L := L) (S := shS st) (k := k) (h := h) (s := s) (v := v) (b := b) hs1
  have e12 := st12 (C := C) (p1 := p1) (p2 := p2) (scr := scrD xs) (st := st) (L := L) (stp := stp) (S := shS st) (k := k) (h := h) (s := s) (v := v) (b := b)
  obtain ⟨m, e13⟩ := loop13 (C := C) (p1 := p1) (p2 := p2) (scr := scrD xs) (k := k) (h := h) (s := s) (v := v) (b := b) hL1 hL nd hr hs1 hs hro c1
  obtain ⟨Γ, Ω, e14⟩ := loop14 (C := C) (p1 := p1) (p2 := p2) (scr := scrD xs) (st := st) (k := k) (h := h) (s := s) (v := v) (b := b) (m := m) hL1 hL c2 c3
  have a0 : evS noHk (evE (X14 C p1 p2) 12) 9 12 lsc (G0 xs) [] (lst 0) = some (.nxt, G0 xs ++ [(Str.ofString "start", .int st)], []) := (evS_asg rfl rfl rfl e0).trans (by kernel_rfl)
  have a1 : evS noHk (evE (X14 C p1 p2) 12) 9 12 lsc (G0 xs ++ [(Str.ofString "start", .int st)]) [] (lst 1) = some (.nxt, Gs xs st L, []) := (evS_asg rfl rfl rfl e1).trans (by kernel_rfl)
  have a2 : evS noHk (evE (X14 C p1 p2) 12) 9 12 lsc (Gs xs st L) [] (lst 2) = some (.nxt, Gt xs st L stp, []) := (evS_asg rfl rfl rfl e2).trans (by kernel_rfl)
  have a3 : evS noHk (evE (X14 C p1 p2) 12) 9 12 lsc (Gt xs st L stp) [] (lst 3) = some (.nxt, Gt xs st L stp ++ [(Str.ofString "shades", .lst (shD (shS st) (20 + L)))], []) := (evS_asg rfl rfl rfl e3).trans (by kernel_rfl)
  have a4 : evS noHk (evE (X14 C p1 p2) 12) 9 12 lsc (Gt xs st L stp ++ [(Str.ofString "shades", .lst (shD (shS st) (20 + L)))]) [] (lst 4) = some (.nxt, LG (scrD xs) st L stp (shD (shS st) (20 + L)) (strOf []) [], []) := by kernel_rfl
  have a6 : evS noHk (evE (X14 C p1 p2) 12) 9 12 lsc (LG (scrD xs) st L stp (shD (shS st) (20 + L)) (strOf (stripL (shS st) (15 + L))) (tl1 k h s v b)) [] (lst 6) = some (.nxt, LG (scrD xs) st L stp (shD (shS st) (20 + L)) (strOf (stripL (shS st) (15 + L))) (tl1 k h s v b ++ [(Str.ofString "rows", .lst (rowsD (shS st) L))]), []) := (evS_asg rfl rfl rfl e6).trans (by kernel_rfl)
  have a7 : evS noHk (evE (X14 C p1 p2) 12) 9 12 lsc (LG (scrD xs) st L stp (shD (shS st) (20 + L)) (strOf (stripL (shS st) (15 + L))) (tl1 k h s v b ++ [(Str.ofString "rows", .lst (rowsD (shS st) L))])) [] (lst 7) = some (.nxt, LM (scrD xs) st L stp (shS st) k h s v b [], []) := (evS_asg rfl rfl rfl e7).trans (by kernel_rfl)
  have a8 : evS noHk (evE (X14 C p1 p2) 12) 9 12 lsc (LM (scrD xs) st L stp (shS st) k h s v b []) [] (lst 8) = some (.nxt, LM (scrD xs) st L stp (shS st) k h s v b (tabT C (shS st) L), []) := (evS_asg rfl rfl rfl e8).trans (by kernel_rfl)
  refine runF_ret (Γ := Γ) (Ω := Ω) rfl ?_
  show evSs (evS noHk (evE (X14 C p1 p2) 12) 9 12) lsc (stBody dLaw) (G0 xs) [] = _
  refine (evSs_cons a0).trans ((evSs_cons a1).trans ((evSs_cons a2).trans ((evSs_cons a3).trans ((evSs_cons a4).trans ((evSs_cons e5).trans ((evSs_cons a6).trans ((evSs_cons a7).trans ((evSs_cons a8).trans ((evSs_cons e9).trans ((evSs_cons e10).trans ((evSs_cons e11).trans ((evSs_cons e12).trans ((evSs_cons e13).trans ((evSs_cons e14).trans ?_))))))))))))))
  kernel_rfl
end Mine

end
section
set_option Elab.async false
set_option maxRecDepth 100000
namespace Mine
open PySem

/-! the shades as Thue and Morse have them -/
theorem tm_zero : ∀ k : Nat, tm k 0 = false
  | 0 => rfl
  | k + 1 => by
    show ((one1 (0 % 16)).xor (tm k (0 / 16))) = false
    rw [Nat.zero_div, tm_zero k]; rfl
theorem tm_more : ∀ (k j x : Nat), x < 16 ^ k → tm (k + j) x = tm k x
  | 0, j, x, h => by
    have : x = 0 := by simpa using h
    rw [this, tm_zero, tm_zero]
  | k + 1, j, x, h => by
    rw [show k + 1 + j = (k + j) + 1 by omega]
    show ((one1 (x % 16)).xor (tm (k + j) (x / 16))) = ((one1 (x % 16)).xor (tm k (x / 16)))
    rw [tm_more k j (x / 16) (by rw [Nat.pow_succ] at h; omega)]
theorem tm_any {k l x : Nat} (hk : x < 16 ^ k) (hl : x < 16 ^ l) : tm k x = tm l x := by
  rcases Nat.le_total k l with h | h
  · obtain ⟨j, rfl⟩ := Nat.exists_eq_add_of_le h
    exact (tm_more k j x hk).symm
  · obtain ⟨j, rfl⟩ := Nat.exists_eq_add_of_le h
    exact tm_more l j x hl
theorem ndig16 (x : Nat) : x < 16 ^ ndig x 4 := by
  have := ndig_ok (x := x) (n := 4) (by decide)
  rwa [Nat.pow_mul] at this
theorem tm_rec (q d : Nat) (hd : d < 16) : tm (ndig (16 * q + d) 4) (16 * q + d) = (one1 d).xor (tm (ndig q 4) q) := by
  have h1 := ndig16 q
  rw [tm_any (k := ndig (16 * q + d) 4) (l := ndig q 4 + 1) (ndig16 _) (by rw [Nat.pow_succ]; omega)]
  show ((one1 ((16 * q + d) % 16)).xor (tm (ndig q 4) ((16 * q + d) / 16))) = _
  rw [show (16 * q + d) % 16 = d by omega, show (16 * q + d) / 16 = q by omega]
theorem one_flip : ∀ d, d < 16 → one1 (15 - d) = one1 d
  | 0, _ => rfl | 1, _ => rfl | 2, _ => rfl | 3, _ => rfl | 4, _ => rfl | 5, _ => rfl | 6, _ => rfl | 7, _ => rfl | 8, _ => rfl | 9, _ => rfl | 10, _ => rfl | 11, _ => rfl | 12, _ => rfl | 13, _ => rfl | 14, _ => rfl | 15, _ => rfl
  | n + 16, h => absurd h (by omega)
theorem par_neg (n d : Nat) (hd : d < 16) : 16 * (-(n : Int) - 1) + d = -((16 * n + (15 - d) : Nat) : Int) - 1 := by omega
theorem nat_pos (n : Nat) : nat' (n : Int) = n := by unfold nat'; rw [if_pos (Int.natCast_nonneg n)]; rfl
theorem nat_neg (n : Nat) : nat' (-(n : Int) - 1) = n := by unfold nat'; rw [if_neg (by omega)]; omega
theorem neg_form {q : Int} (h : ¬ 0 ≤ q) : ∃ n : Nat, q = -(n : Int) - 1 := ⟨(-q - 1).toNat, by omega⟩
theorem par_block (q : Int) (d : Nat) (hd : d < 16) : par (16 * q + d) = (one1 d).xor (par q) := by
  unfold par
  by_cases hq : 0 ≤ q
  · obtain ⟨n, rfl⟩ := Int.eq_ofNat_of_zero_le hq
    rw [show 16 * (n : Int) + (d : Int) = ((16 * n + d : Nat) : Int) by rw [Int.natCast_add, Int.natCast_mul]; rfl, nat_pos, nat_pos]
    exact tm_rec n d hd
  · obtain ⟨n, rfl⟩ := neg_form hq
    rw [par_neg n d hd, nat_neg, nat_neg]
    have := tm_rec n (15 - d) (Nat.lt_of_le_of_lt (Nat.sub_le _ _) (by decide))
    rwa [one_flip d hd] at this
theorem one_next : ∀ d, d < 8 → one1 (2 * d) ≠ one1 (2 * d + 1)
  | 0, _ => by decide | 1, _ => by decide | 2, _ => by decide | 3, _ => by decide | 4, _ => by decide | 5, _ => by decide | 6, _ => by decide | 7, _ => by decide
  | n + 8, h => absurd h (by omega)
theorem split8 (q : Int) : ∃ (a : Int) (b : Nat), b < 8 ∧ q = 8 * a + b :=
  ⟨q / 8, (q % 8).toNat, (Int.toNat_lt (Int.emod_nonneg _ (by decide))).mpr (Int.emod_lt_of_pos _ (by decide)), by rw [Int.toNat_of_nonneg (Int.emod_nonneg _ (by decide)), Int.mul_ediv_add_emod]⟩
theorem dbl0 (a : Int) (b : Nat) : 16 * a + ((2 * b : Nat) : Int) = 2 * (8 * a + b) := by omega
theorem dbl1 (a : Int) (b : Nat) : 16 * a + ((2 * b + 1 : Nat) : Int) = 2 * (8 * a + b) + 1 := by omega
theorem dbl_lt {b : Nat} (h : b < 8) : 2 * b + 1 < 16 := by omega
theorem xor_ne {x y : Bool} (h : x ≠ y) : ∀ z : Bool, x.xor z ≠ y.xor z := by cases x <;> cases y <;> first | exact absurd rfl h | decide
theorem par_even (q : Int) : par (2 * q) ≠ par (2 * q + 1) := by
  obtain ⟨a, b, hb, rfl⟩ := split8 q
  have e1 := par_block a (2 * b) (Nat.lt_of_succ_lt (dbl_lt hb))
  have e2 := par_block a (2 * b + 1) (dbl_lt hb)
  rw [dbl0] at e1
  rw [dbl1] at e2
  rw [e1, e2]
  exact xor_ne (one_next b hb) _
theorem par_three (q : Int) : ¬ (par q = par (q + 1) ∧ par (q + 1) = par (q + 2)) := by
  rintro ⟨h1, h2⟩
  rcases Int.emod_two_eq q with h | h
  · have := par_even (q / 2)
    rw [show 2 * (q / 2) = q by omega] at this
    exact this h1
  · have := par_even ((q + 1) / 2)
    rw [show 2 * ((q + 1) / 2) = q + 1 by omega, show q + 1 + 1 = q + 2 by omega] at this
    exact this h2

/-! three blocks as bits of a number -/
noncomputable def mu (b : Bool) : Nat := cond b 38505 27030
noncomputable def W48 (a b c : Bool) : Nat := mu a + mu b * 65536 + mu c * 4294967296
noncomputable def sel (a b c : Bool) (j : Nat) : Bool := match j with
  | 0 => a
  | 1 => b
  | _ => c
noncomputable def allN : Nat → (Nat → Bool) → Bool
  | 0, _ => true
  | n + 1, f => f n && allN n f
theorem allN_ok {f : Nat → Bool} : ∀ {n : Nat}, allN n f = true → ∀ i, i < n → f i = true
  | 0, _, _, h => absurd h (by omega)
  | n + 1, h, i, hi => by
    have h : (f n && allN n f) = true := h
    rw [Bool.and_eq_true] at h
    rcases Nat.lt_succ_iff_lt_or_eq.mp hi with hi | rfl
    · exact allN_ok h.2 i hi
    · exact h.1
theorem W48_ok (a b c : Bool) : ∀ i, i < 48 → ((W48 a b c).testBit i == (one1 (i % 16)).xor (sel a b c (i / 16))) = true := by
  cases a <;> cases b <;> cases c <;> exact allN_ok (by kernel_rfl)
theorem lin16 (q : Int) {a b o k : Nat} (e : 16 * a + b = o + k) : 16 * (q + (a : Int)) + (b : Int) = 16 * q + (o : Int) + (k : Int) := by omega
theorem split16 (x : Int) {o : Nat} {q : Int} (ho : (x % 16).toNat = o) (hq : x / 16 = q) : x = 16 * q + o := by
  rw [← ho, ← hq, Int.toNat_of_nonneg (Int.emod_nonneg x (by decide)), Int.mul_ediv_add_emod]
theorem three_of {a b o k : Nat} (e : 16 * a + b = o + k) (ho : o < 16) (hk : k < 32) : a = 0 ∨ a = 1 ∨ a = 2 := by omega
theorem shS_bits (st : Int) (k : Nat) (hk : k < 32) : shS st k = ((W48 (par ((st - 3) / 16)) (par ((st - 3) / 16 + 1)) (par ((st - 3) / 16 + 2))) >>> ((st - 3) % 16).toNat).testBit k := by
  rw [Nat.testBit_shiftRight]
  generalize ho : ((st - 3) % 16).toNat = o
  have ho16 : o < 16 := ho ▸ (Int.toNat_lt (Int.emod_nonneg _ (by decide))).mpr (Int.emod_lt_of_pos _ (by decide))
  generalize hq : (st - 3) / 16 = q
  have hst : st - 3 = 16 * q + o := split16 _ ho hq
  rw [beq_iff_eq.mp (W48_ok _ _ _ (o + k) (Nat.add_lt_add ho16 hk))]
  unfold shS
  rw [hst]
  have hj := three_of (Nat.div_add_mod (o + k) 16) ho16 hk
  have key := par_block (q + ((o + k) / 16 : Nat)) ((o + k) % 16) (Nat.mod_lt _ (by decide))
  rw [lin16 q (Nat.div_add_mod (o + k) 16)] at key
  rw [key]
  congr 1
  rcases hj with e | e | e <;> rw [e]
  · show par (q + ((0 : Nat) : Int)) = par q
    simp
  · rfl
  · rfl
end Mine

end
section
set_option Elab.async false
set_option maxRecDepth 100000
namespace Mine
open PySem

/-! the finite check -/
noncomputable def code : List Bool → Nat
  | [] => 1
  | b :: l => 2 * code l + cond b 1 0
theorem code_pos : ∀ l, 0 < code l
  | [] => by decide
  | b :: l => by have := code_pos l; unfold code; omega
theorem code_inj : ∀ {l m : List Bool}, code l = code m → l = m
  | [], [], _ => rfl
  | [], b :: m, h => by
    have := code_pos m
    simp only [code] at h
    cases b <;> simp only [cond] at h <;> omega
  | a :: l, [], h => by
    have := code_pos l
    simp only [code] at h
    cases a <;> simp only [cond] at h <;> omega
  | a :: l, b :: m, h => by
    simp only [code] at h
    have h2 : a = b ∧ code l = code m := by cases a <;> cases b <;> simp only [cond] at h <;> first | (refine ⟨rfl, ?_⟩; omega) | omega
    rw [h2.1, code_inj h2.2]
noncomputable def kcs (W stp : Nat) : Nat → Nat → Nat
  | 0, _ => 1
  | c + 1, i => 2 * kcs W stp c (i + stp) + (W >>> i) % 2
noncomputable def win (W L p : Nat) : Nat := (W >>> (p + 3)) % 2 ^ (L + 2)
noncomputable def kyc (W L r stp p : Nat) : Nat := kcs W stp (cntN L r stp p) (hdN r stp p)
noncomputable def lowF (W : Nat) : Nat → Nat → Nat → Nat
  | 0, _, _ => 0
  | n + 1, i, j => cond (Nat.beq ((W >>> i) % 2) ((W >>> (i + 1)) % 2)) (j + 1) (lowF W n (i + 1) (j + 1))
noncomputable def chk (W L stp r kk : Nat) : Bool :=
  allN (15 + L) (fun i => !(Nat.beq ((W >>> (i + 3)) % 8) 0) && !(Nat.beq ((W >>> (i + 3)) % 8) 7)) &&
  (allN 16 (fun p => Nat.beq (restR kk (bitsW W.testBit L p)) (lowN r stp p)) &&
  allN 16 (fun q => allN q (fun p => cond (Nat.beq (win W L q) (win W L p)) (Nat.ble (p + (L + 2)) q && (Nat.beq (lowN r stp q) (lowN r stp p) && Nat.beq (kyc W L r stp q) (kyc W L r stp p))) (!(Nat.beq (lowN r stp q) (lowN r stp p) && Nat.beq (kyc W L r stp q) (kyc W L r stp p))))))
noncomputable def tri (t : Nat) : Bool × Bool × Bool := (t.testBit 0, t.testBit 1, t.testBit 2)
noncomputable def chkO (L o t : Nat) : Bool := chk (W48 (t.testBit 0) (t.testBit 1) (t.testBit 2) >>> o) L (stpOf L) ((o + 3) % stpOf L) (kkOf L)
noncomputable def chkA (l : Nat) : Bool := allN 16 fun o => allN 8 fun t => Nat.beq t 0 || Nat.beq t 7 || chkO l o t
/-! what the check says -/
theorem win_eq {W L p q : Nat} : win W L q = win W L p ↔ bitsW W.testBit L q = bitsW W.testBit L p := by
  constructor
  · intro e
    unfold bitsW
    refine List.map_congr_left fun i hi => ?_
    have hi := List.mem_range.mp hi
    have := congrArg (fun n => n.testBit i) e
    simpa only [win, Nat.testBit_mod_two_pow, Nat.testBit_shiftRight, hi, decide_true, Bool.true_and] using this
  · intro e
    apply Nat.eq_of_testBit_eq
    intro i
    simp only [win, Nat.testBit_mod_two_pow, Nat.testBit_shiftRight]
    by_cases hi : i < L + 2
    · have h1 : (bitsW W.testBit L q)[i]? = (bitsW W.testBit L p)[i]? := by rw [e]
      rw [show (bitsW W.testBit L q)[i]? = some (W.testBit (q + 3 + i)) from rget hi, show (bitsW W.testBit L p)[i]? = some (W.testBit (p + 3 + i)) from rget hi] at h1
      rw [Option.some.inj h1]
    · simp only [hi, decide_false, Bool.false_and]
theorem bit_mod (W i : Nat) : (W >>> i) % 2 = cond (W.testBit i) 1 0 := by
  rw [Nat.shiftRight_eq_div_pow, Nat.testBit_eq_decide_div_mod_eq]
  have := Nat.mod_two_eq_zero_or_one (W / 2 ^ i)
  rcases this with e | e <;> rw [e] <;> rfl
theorem kcs_code (W stp : Nat) : ∀ c i, kcs W stp c i = code ((List.range c).map fun j => W.testBit (i + stp * j))
  | 0, _ => rfl
  | c + 1, i => by
    rw [List.range_succ_eq_map, List.map_cons, List.map_map]
    show 2 * kcs W stp c (i + stp) + (W >>> i) % 2 = 2 * code ((List.range c).map _) + cond (W.testBit (i + stp * 0)) 1 0
    rw [kcs_code W stp c (i + stp), bit_mod, Nat.mul_zero, Nat.add_zero]
    congr 3
    refine List.map_congr_left fun j _ => ?_
    show W.testBit (i + stp + stp * j) = W.testBit (i + stp * (j + 1))
    rw [Nat.mul_succ]; congr 1; omega
theorem kq_eq {W L r stp q p : Nat} : kq W.testBit L r stp q p = (Nat.beq (lowN r stp q) (lowN r stp p) && Nat.beq (kyc W L r stp q) (kyc W L r stp p)) := by
  unfold kq
  have e : (keyL W.testBit L r stp q == keyL W.testBit L r stp p) = Nat.beq (kyc W L r stp q) (kyc W L r stp p) := by
    rw [Bool.eq_iff_iff, beq_iff_eq]
    unfold kyc
    rw [kcs_code, kcs_code]
    exact ⟨fun h => by unfold keyL at h; rw [h]; exact Nat.beq_refl _, fun h => code_inj (Nat.eq_of_beq_eq_true h)⟩
  have e2 : (lowN r stp q == lowN r stp p) = Nat.beq (lowN r stp q) (lowN r stp p) := by
    rw [Bool.eq_iff_iff, beq_iff_eq]
    exact ⟨fun h => by rw [h]; exact Nat.beq_refl _, Nat.eq_of_beq_eq_true⟩
  rw [e, e2]
theorem nd_8 : ∀ x, x < 8 → x ≠ 0 → x ≠ 7 → Nd (x.testBit 0) (x.testBit 1) (x.testBit 2) := by unfold Nd; decide
theorem nd_of {W i : Nat} (h0 : (W >>> i) % 8 ≠ 0) (h7 : (W >>> i) % 8 ≠ 7) : Nd (W.testBit i) (W.testBit (i + 1)) (W.testBit (i + 2)) := by
  have e : ∀ j, j < 3 → W.testBit (i + j) = ((W >>> i) % 8).testBit j := fun j hj => by
    rw [show 8 = 2 ^ 3 from rfl, Nat.testBit_mod_two_pow, Nat.testBit_shiftRight, decide_eq_true hj, Bool.true_and]
  have e0 := e 0 (by decide)
  rw [Nat.add_zero] at e0
  rw [e0, e 1 (by decide), e 2 (by decide)]
  have hlt : (W >>> i) % 8 < 8 := Nat.mod_lt _ (by decide)
  exact nd_8 _ hlt h0 h7
theorem row_bits {S : Nat → Bool} {L p q : Nat} (hL1 : 1 ≤ L) (hp : p < 16) (hq : q < 16) (hnd : ∀ i, i < 15 + L → Nd (S (i + 3)) (S (i + 4)) (S (i + 5))) : row S L q = row S L p ↔ bitsW S L q = bitsW S L p := by
  have get : ∀ m, m < 16 → ∀ i, i < L → inA (chS S (m + i)) = S (m + 3 + i) ∧ inB (chS S (m + i)) = S (m + 3 + (i + 1)) ∧ inC (chS S (m + i)) = S (m + 3 + (i + 2)) := fun m hm i hi => by
    have e := Nat.add_right_comm m 3 i
    rw [e, show m + 3 + (i + 1) = m + i + 4 from congrArg (· + 1) e, show m + 3 + (i + 2) = m + i + 5 from congrArg (· + 2) e]
    exact inLet _ _ _ (hnd (m + i) (Nat.add_lt_add_of_le_of_lt (Nat.le_of_lt_succ hm) hi))
  constructor
  · intro e
    have el : ∀ i, i < L → chS S (q + i) = chS S (p + i) := fun i hi => by
      have h1 : (row S L q)[i]? = (row S L p)[i]? := by rw [e]
      rw [show (row S L q)[i]? = some (chS S (q + i)) from rget hi, show (row S L p)[i]? = some (chS S (p + i)) from rget hi] at h1
      exact Option.some.inj h1
    unfold bitsW
    refine List.map_congr_left fun i hi => ?_
    have hi := List.mem_range.mp hi
    by_cases h1 : i < L
    · rw [← (get q hq i h1).1, ← (get p hp i h1).1, el i h1]
    · have gq := get q hq (L - 1) (by omega)
      have gp := get p hp (L - 1) (by omega)
      have ee := el (L - 1) (by omega)
      rw [ee] at gq
      have h2 : i = L - 1 + 1 ∨ i = L - 1 + 2 := by omega
      rcases h2 with h2 | h2
      · rw [h2, ← gq.2.1, ← gp.2.1]
      · rw [h2, ← gq.2.2, ← gp.2.2]
  · intro e
    have el : ∀ i, i < L + 2 → S (q + 3 + i) = S (p + 3 + i) := fun i hi => by
      have h1 : (bitsW S L q)[i]? = (bitsW S L p)[i]? := by rw [e]
      rw [show (bitsW S L q)[i]? = some (S (q + 3 + i)) from rget hi, show (bitsW S L p)[i]? = some (S (p + 3 + i)) from rget hi] at h1
      exact Option.some.inj h1
    unfold row
    refine List.map_congr_left fun i hi => ?_
    have hi := List.mem_range.mp hi
    unfold chS
    rw [show q + i + 3 = q + 3 + i by omega, show q + i + 4 = q + 3 + (i + 1) by omega, show q + i + 5 = q + 3 + (i + 2) by omega, el i (by omega), el (i + 1) (by omega), el (i + 2) (by omega),
      show p + i + 3 = p + 3 + i by omega, show p + i + 4 = p + 3 + (i + 1) by omega, show p + i + 5 = p + 3 + (i + 2) by omega]
theorem chk_fit {W L stp r kk : Nat} (hL1 : 1 ≤ L) (h : chk W L stp r kk = true) : Fit W.testBit L stp r kk := by
  unfold chk at h
  rw [Bool.and_eq_true, Bool.and_eq_true] at h
  obtain ⟨h1, h2, h3⟩ := h
  have nd : ∀ i, i < 15 + L → Nd (W.testBit (i + 3)) (W.testBit (i + 4)) (W.testBit (i + 5)) := fun i hi => by
    have := allN_ok h1 i hi
    rw [Bool.and_eq_true, Bool.not_eq_true', Bool.not_eq_true'] at this
    exact nd_of (fun e => by rw [e] at this; cases this.1) (fun e => by rw [e] at this; cases this.2)
  have rb : ∀ p, p < 16 → ∀ q, q < 16 → (row W.testBit L q == row W.testBit L p) = Nat.beq (win W L q) (win W L p) := fun p hp q hq => by
    rw [Bool.eq_iff_iff, beq_iff_eq, row_bits hL1 hp hq nd, ← win_eq]
    exact ⟨fun e => by rw [e]; exact Nat.beq_refl _, Nat.eq_of_beq_eq_true⟩
  have pair : ∀ q, q < 16 → ∀ p, p < q → (row W.testBit L q == row W.testBit L p) = kq W.testBit L r stp q p ∧ ((row W.testBit L q == row W.testBit L p) = true → p + (L + 2) ≤ q) := fun q hq p hp => by
    have := allN_ok (allN_ok h3 q hq) p hp
    rw [← kq_eq] at this
    rw [rb p (by omega) q hq]
    generalize Nat.beq (win W L q) (win W L p) = w at *
    cases w
    · have this : (!kq W.testBit L r stp q p) = true := this
      rw [Bool.not_eq_true'] at this
      exact ⟨this.symm, fun e => nomatch e⟩
    · have this : (Nat.ble (p + (L + 2)) q && kq W.testBit L r stp q p) = true := this
      rw [Bool.and_eq_true] at this
      exact ⟨this.2.symm, fun _ => Nat.le_of_ble_eq_true this.1⟩
  have ksym : ∀ p q, kq W.testBit L r stp q p = kq W.testBit L r stp p q := fun p q => by
    unfold kq
    rw [Bool.eq_iff_iff, Bool.and_eq_true, Bool.and_eq_true, beq_iff_eq, beq_iff_eq, beq_iff_eq, beq_iff_eq]
    exact ⟨fun ⟨a, b⟩ => ⟨a.symm, b.symm⟩, fun ⟨a, b⟩ => ⟨a.symm, b.symm⟩⟩
  have rsym : ∀ p q, (row W.testBit L q == row W.testBit L p) = (row W.testBit L p == row W.testBit L q) := fun p q => by
    rw [Bool.eq_iff_iff, beq_iff_eq, beq_iff_eq]
    exact ⟨Eq.symm, Eq.symm⟩
  refine ⟨nd, fun p hp => Nat.eq_of_beq_eq_true (allN_ok h2 p hp), fun p hp q hq => ?_, fun p hp q hq => ?_⟩
  · rcases Nat.lt_trichotomy p q with hl | rfl | hl
    · exact (pair q hq p hl).1
    · unfold kq
      rw [beq_self_eq_true, beq_self_eq_true, beq_self_eq_true]; rfl
    · rw [rsym, ksym]; exact (pair p hp q hl).1
  · have hq16 := tld_lt hq
    have hrow : (row W.testBit L q == row W.testBit L p) = true := (List.mem_filter.mp hq).2
    unfold far
    rcases Nat.lt_trichotomy p q with hl | rfl | hl
    · have := (pair q hq16 p hl).2 hrow
      rw [decide_eq_false (by rw [if_neg (by omega)]; omega), Bool.and_false]
    · rw [bne_self_eq_false]; rfl
    · have := (pair p hp q hl).2 (by rw [rsym]; exact hrow)
      rw [decide_eq_false (by rw [if_pos (by omega)]; omega), Bool.and_false]
/-- the shades are looked at in few places alone -/
theorem fit_congr {S S' : Nat → Bool} {L stp r kk : Nat} (hL : L ≤ 8) (hs1 : 1 ≤ stp) (hs : stp ≤ 4) (e : ∀ i, i < 32 → S i = S' i) (f : Fit S' L stp r kk) : Fit S L stp r kk := by
  have rowE : ∀ p, p < 16 → row S L p = row S' L p := fun p hp => List.map_congr_left fun i hi => by
    have hi := List.mem_range.mp hi
    unfold chS
    rw [e _ (by omega), e _ (by omega), e _ (by omega)]
  have bitE : ∀ p, p < 16 → bitsW S L p = bitsW S' L p := fun p hp => List.map_congr_left fun i hi => by
    have hi := List.mem_range.mp hi
    exact e _ (by omega)
  have keyE : ∀ p, p < 16 → keyL S L r stp p = keyL S' L r stp p := fun p hp => List.map_congr_left fun i hi => by
    have hi := List.mem_range.mp hi
    exact e _ (Nat.lt_trans (hd_lt hp hs1 hs hi) (Nat.lt_of_le_of_lt (Nat.add_le_add_left hL 20) (by decide)))
  refine ⟨fun i hi => ?_, fun p hp => ?_, fun p hp q hq => ?_, fun p hp q hq => ?_⟩
  · rw [e _ (by omega), e _ (by omega), e _ (by omega)]; exact f.nd i hi
  · rw [bitE p hp]; exact f.c1 p hp
  · rw [rowE p hp, rowE q hq]
    unfold kq
    rw [keyE p hp, keyE q hq]
    exact f.c2 p hp q hq
  · have hq16 := tld_lt hq
    refine f.c3 p hp q ?_
    have := List.mem_filter.mp hq
    exact List.mem_filter.mpr ⟨this.1, by have h2 := this.2; rwa [rowE p hp, rowE q hq16] at h2⟩
end Mine

end
section
set_option Elab.async false
set_option maxRecDepth 100000
namespace Mine
open PySem

theorem chkA_all : ∀ l, 1 ≤ l → l ≤ 8 → chkA l = true
  | 1, _, _ => by kernel_rfl | 2, _, _ => by kernel_rfl | 3, _, _ => by kernel_rfl | 4, _, _ => by kernel_rfl | 5, _, _ => by kernel_rfl | 6, _, _ => by kernel_rfl | 7, _, _ => by kernel_rfl | 8, _, _ => by kernel_rfl
  | 0, h, _ => absurd h (by omega)
  | n + 9, _, h => absurd h (by omega)
theorem tri_of (a b c : Bool) (h : ¬ (a = b ∧ b = c)) : ∃ t, t < 8 ∧ t ≠ 0 ∧ t ≠ 7 ∧ t.testBit 0 = a ∧ t.testBit 1 = b ∧ t.testBit 2 = c := by
  refine ⟨cond a 1 0 + cond b 2 0 + cond c 4 0, ?_⟩
  cases a <;> cases b <;> cases c <;> first | exact absurd ⟨rfl, rfl⟩ h | decide
theorem chk_all {L o : Nat} (h1 : 1 ≤ L) (h8 : L ≤ 8) (ho : o < 16) {a b c : Bool} (h : ¬ (a = b ∧ b = c)) : chk (W48 a b c >>> o) L (stpOf L) ((o + 3) % stpOf L) (kkOf L) = true := by
  obtain ⟨t, ht, t0, t7, rfl, rfl, rfl⟩ := tri_of a b c h
  have := allN_ok (allN_ok (chkA_all L h1 h8) o ho) t ht
  rw [Bool.or_eq_true, Bool.or_eq_true] at this
  rcases this with (e | e) | e
  · exact absurd (Nat.eq_of_beq_eq_true e) t0
  · exact absurd (Nat.eq_of_beq_eq_true e) t7
  · exact e

theorem stp_dvd (L : Nat) : (stpOf L : Int) ∣ 16 := by unfold stpOf; split <;> (try split) <;> decide
theorem row_nn (x : Int) : (0 : Int) ≤ x % 16 := Int.emod_nonneg x (by decide)
theorem start_mod (st : Int) {m : Nat} (h : (m : Int) ∣ 16) : (((st - 3) % 16).toNat + 3) % m = (st % m).toNat := by
  have e : (((((st - 3) % 16).toNat + 3) % m : Nat) : Int) = st % m := by
    rw [Int.natCast_emod, Int.natCast_add, Int.toNat_of_nonneg (row_nn _), Int.add_emod, Int.emod_emod_of_dvd _ h, ← Int.add_emod]
    exact congrArg (· % (m : Int)) (Int.sub_add_cancel st 3)
  rw [← e]; rfl
theorem row_lt (x : Int) : (x % 16).toNat < 16 := (Int.toNat_lt (row_nn x)).mpr (Int.emod_lt_of_pos x (by decide))
theorem fit_all (st : Int) (L : Nat) (h1 : 1 ≤ L) (h8 : L ≤ 8) : Fit (shS st) L (stpOf L) (st % stpOf L).toNat (kkOf L) := by
  have hs := stp_b L
  have hc := chk_all (o := ((st - 3) % 16).toNat) h1 h8 (row_lt _) (par_three ((st - 3) / 16))
  rw [start_mod st (stp_dvd L)] at hc
  exact fit_congr h8 hs.1 hs.2 (fun i hi => shS_bits st i hi) (chk_fit h1 hc)
end Mine

end
section
open PySem PySem.W PyProof.Rows
set_option Elab.async false
set_option maxRecDepth 100000
set_option exponentiation.threshold 10000
namespace Mine
open PySem.Sre PySem.Builtin.Re

/-! what the written heap must hold -/
noncomputable def offT (P1 P2 : Nat) : Frag → Frag
  | [] => []
  | p :: K => match Nat.beq p.1 P1 || Nat.beq p.1 P2 with
    | true => offT P1 P2 K
    | false => p :: offT P1 P2 K
theorem offT_in {P1 P2 : Nat} : ∀ {K : Frag} {a : Addr} {o : Obj}, (offT P1 P2 K).lookup a = some o → K.lookup a = some o ∧ a ≠ P1 ∧ a ≠ P2
  | [], a, o, h => nomatch h
  | p :: K, a, o, h => by
    obtain ⟨b, ob⟩ := p
    unfold offT at h
    dsimp only at h
    split at h
    · rename_i hb
      obtain ⟨h1, h2, h3⟩ := offT_in h
      refine ⟨?_, h2, h3⟩
      rw [List.lookup_cons]
      have : (a == b) = false := by
        rw [beq_eq_false_iff_ne]
        intro e
        rw [Bool.or_eq_true] at hb
        rcases hb with hb | hb
        · exact h2 (e.trans (Nat.eq_of_beq_eq_true hb))
        · exact h3 (e.trans (Nat.eq_of_beq_eq_true hb))
      rw [this]; exact h1
    · rename_i hb
      rw [List.lookup_cons] at h ⊢
      rw [Bool.or_eq_false_iff] at hb
      cases hab : a == b
      · rw [hab] at h
        exact offT_in h
      · rw [hab] at h
        have e := beq_iff_eq.mp hab
        refine ⟨h, fun q => ?_, fun q => ?_⟩
        · have := hb.1; rw [← e, q, Nat.beq_refl] at this; cases this
        · have := hb.2; rw [← e, q, Nat.beq_refl] at this; cases this
noncomputable def noneIn (K : Frag) (a : Addr) (x : Str) : Bool := match nsIn K a x with
  | some none => true
  | _ => false
theorem noneIn_of {K : Frag} {a : Addr} {x : Str} (h : noneIn K a x = true) : nsIn K a x = some none := by
  unfold noneIn at h
  split at h
  · assumption
  · first | exact nsd h | exact nft h | exact ntf h | cases h
noncomputable def objK (K : Frag) (a : Addr) : Obj := (K.lookup a).getD default
noncomputable def fldK (o : Obj) : Array Value := match o.data with
  | .fields vs => vs
  | _ => #[]
noncomputable def refK (v : Value) : Addr := match v with
  | .ref a => a
  | _ => 0
noncomputable def tokK (v : Value) : Tok := match v with
  | .int _ t => t
  | _ => 0
noncomputable def seqK (o : Obj) : Array Value := match o.data with
  | .seq i _ => i
  | _ => #[]
noncomputable def seqN (o : Obj) : Nat := match o.data with
  | .seq _ n => n
  | _ => 0
/-- a pattern lies there -/
structure PatK (K : Frag) (p : Addr) (code : Array Nat) : Prop where
  h1 : K.lookup p = some (objK K p)
  h2 : (objK K p).cls = .type "re.Pattern"
  h3 : (objK K p).dict = none
  h4 : (objK K p).data = .fields (fldK (objK K p))
  h5 : (fldK (objK K p)).getD 6 .none = rawInt 0
  h6 : (fldK (objK K p)).getD 5 .none = .ref (refK ((fldK (objK K p)).getD 5 .none))
  h7 : (fldK (objK K p)).getD 2 .none = rawInt 0
  h8 : K.lookup (refK ((fldK (objK K p)).getD 5 .none)) = some (objK K (refK ((fldK (objK K p)).getD 5 .none)))
  h9 : (objK K (refK ((fldK (objK K p)).getD 5 .none))).data = .seq (seqK (objK K (refK ((fldK (objK K p)).getD 5 .none)))) (seqN (objK K (refK ((fldK (objK K p)).getD 5 .none))))
  h10 : ((seqK (objK K (refK ((fldK (objK K p)).getD 5 .none)))).map reRawOf).map (·.toNat) = code
theorem PatK.at {K : Frag} {h : Heap} {p : Addr} {code : Array Nat} (X : K.In h) (P : PatK K p code) : PatAt h p code :=
  ⟨_, _, _, X _ _ P.h1, P.h2, P.h3, P.h4, P.h5, P.h6, P.h7, _, _, _, X _ _ P.h8, P.h9, P.h10⟩
/-- a function of the module lies there -/
structure FnK (K : Frag) (x : Str) (s : Stmt) : Prop where
  mg : globOk K x = true
  gd : fdGood K (globA K x) = true
  sc : (fdOf K (globA K x)).scope = stScope s
  bd : (fdOf K (globA K x)).body = .stmts (stBody s)
theorem FnK.gf {B : Bs} {K : Frag} {x : Str} {s : Stmt} (kb : KB B K) (f : FnK K x s) (ok : fnOk (fnOf s) = true) (hb : ∀ vs : List Value, vs.length = (fnOf s).ps.length → bindArgs (fdOf K (globA K x)) ⟨vs, []⟩ = pure ((fnOf s).ps.zip vs)) : GfAt B x (fnOf s) :=
  ⟨_, globOk_mg kb f.mg, FnAt.of kb f.gd f.sc f.bd ok hb⟩
/-- one of the class -/
structure MtK (K : Frag) (C : Addr) (x : Str) (s : Stmt) : Prop where
  mt : methOk K C x = true
  gd : fdGood K (methA K C x) = true
  sc : (fdOf K (methA K C x)).scope = stScope s
  bd : (fdOf K (methA K C x)).body = .stmts (stBody s)
theorem MtK.at {B : Bs} {K : Frag} {C : Addr} {x : Str} {s : Stmt} (kb : KB B K) (m : MtK K C x s) : ClsAt B K C x s (fdOf K (methA K C x)) := ⟨m.mt, FcAt.of kb m.gd m.sc m.bd⟩
/-- one with a nested one -/
structure NsK (K : Frag) (x : Str) (s : Stmt) (c P : Addr) : Prop where
  fn : FnK K x s
  cd : (fdOf K (globA K x)).code = .ref c
  ch : codeHdIn K c P = true
  q : (fdOf K (globA K x)).qualname = x
theorem NsK.at {B : Bs} {K : Frag} {x qn : Str} {s i : Stmt} {c P : Addr} (kb : KB B K) (n : NsK K x s c P) (hp : P ∈ B.tb) (hdn : B.dn P = (stPos i, qn)) (bm : B.h0.BuiltinsAt B.mg P) : NestAt B x s i qn (globA K x) c P (fdOf K (globA K x)) :=
  ⟨globOk_mg kb n.fn.mg, FcAt.of kb n.fn.gd n.fn.sc n.fn.bd, n.cd, codeHd_of_K kb.in0 n.ch, hp, hdn, n.q, bm⟩

theorem look_mem {α : Type} : ∀ {l : List (Str × α)} {x : Str} {a : α}, look l x = some a → (x, a) ∈ l
  | [], _, _, h => nomatch h
  | (y, b) :: r, x, a, h => by
    unfold look at h
    split at h
    · rename_i e
      cases h
      rw [strEq_iff.mp e]; exact List.mem_cons_self
    · exact List.mem_cons_of_mem _ (look_mem h)
theorem bind_init {fd : FuncData} {s : Shared} {T : Addr} {o : Obj} {d u v : Value} {n : Nat} (hp : fd.params = stArgs dInit) (hd : fd.defaults = .ref T) (ho : s.heap.get? T = some o) (hs : o.data = .seq #[d] n) : BindsTo s fd ⟨[u, v], []⟩ [(Str.ofString "self", u), (Str.ofString "headers", v)] := by
  cases fd
  dsimp only at hp hd
  subst hp
  subst hd
  exact BindsTo.of_defaults rfl ho hs rfl (by kernel_rfl)
/-- the constructor's one default -/
structure IniK (K : Frag) (fd : FuncData) : Prop where
  p : fd.params = stArgs dInit
  d : fd.defaults = .ref (refK fd.defaults)
  o : K.lookup (refK fd.defaults) = some (objK K (refK fd.defaults))
  s : (objK K (refK fd.defaults)).data = .seq #[(seqK (objK K (refK fd.defaults))).getD 0 .none] (seqN (objK K (refK fd.defaults)))
theorem IniK.bind {K : Frag} {fd : FuncData} (i : IniK K fd) : ∀ u v (s : Shared), K.In s.heap → BindsTo s fd ⟨[u, v], []⟩ [(Str.ofString "self", u), (Str.ofString "headers", v)] := fun _ _ _ X => bind_init i.p i.d (X _ _ i.o) i.s
/-- all that the written heap must hold for the second law -/
structure Hold (K : Frag) (C p1 p2 c1 P1 c2 P2 : Addr) : Prop where
  hk : HdK K C
  cC : nsIn K mainGlobals "Headers" = some (some (.ref C))
  pn : PatK K p1 codeN
  pv : PatK K p2 codeV
  kn : nsIn K mainGlobals "_name_disallowed_re" = some (some (.ref p1))
  kv : nsIn K mainGlobals "_value_disallowed_re" = some (some (.ref p2))
  kl : nsIn K mainGlobals "_DIV_LIMIT" = some (some (.int 4000 (tokK (((nsIn K mainGlobals "_DIV_LIMIT").getD none).getD .none))))
  pr : (prTab.all fun q => noneIn K mainGlobals q.1) = true
  ps : noneIn K mainGlobals "str" = true
  pl : noneIn K mainGlobals "list" = true
  prv : noneIn K mainGlobals "reversed" = true
  lim : noneIn K cStatics "sys.recursionlimit" = true
  shr : noneIn K cStatics sharingNotToldKey = true
  mCv : MtK K C "_convert_string_type" dConv
  mIn : MtK K C "__init__" dInit
  mGa : MtK K C "get_all" dGetAll
  bCv : ∀ o v b, bindArgs (fdOf K (methA K C "_convert_string_type")) ⟨[o, v], [(Str.ofString "name", b)]⟩ = pure [(Str.ofString "self", o), (Str.ofString "value", v), (Str.ofString "name", b)]
  bIn : IniK K (fdOf K (methA K C "__init__"))
  bGa : ∀ o v, bindArgs (fdOf K (methA K C "get_all")) ⟨[o, v], []⟩ = pure [(Str.ofString "self", o), (Str.ofString "name", v)]
  nI : NsK K "_int2digits" dI2d c1 P1
  nD : NsK K "_digits2int" dD2i c2 P2
  bI : ∀ v w, bindArgs (fdOf K (globA K "_int2digits")) ⟨[v, w], []⟩ = pure [(Str.ofString "a", v), (Str.ofString "n", w)]
  bD : ∀ v w, bindArgs (fdOf K (globA K "_digits2int")) ⟨[v, w], []⟩ = pure [(Str.ofString "digits", v), (Str.ofString "n", w)]
  f1 : FnK K "_div2n1n" d2n1
  b1 : ∀ x y z, bindArgs (fdOf K (globA K "_div2n1n")) ⟨[x, y, z], []⟩ = pure [(Str.ofString "a", x), (Str.ofString "b", y), (Str.ofString "n", z)]
  f2 : FnK K "_divmod_pos" dDmp
  b2 : ∀ x y, bindArgs (fdOf K (globA K "_divmod_pos")) ⟨[x, y], []⟩ = pure [(Str.ofString "a", x), (Str.ofString "b", y)]
  f3 : FnK K "int_divmod" dIdm
  b3 : ∀ x y, bindArgs (fdOf K (globA K "int_divmod")) ⟨[x, y], []⟩ = pure [(Str.ofString "a", x), (Str.ofString "b", y)]
  f4 : FnK K "rgb_to_hsv" dRgb
  b4 : ∀ x y z, bindArgs (fdOf K (globA K "rgb_to_hsv")) ⟨[x, y, z], []⟩ = pure [(Str.ofString "r", x), (Str.ofString "g", y), (Str.ofString "b", z)]
  f5 : FnK K "hsv_to_rgb" dHsv
  b5 : ∀ x y z, bindArgs (fdOf K (globA K "hsv_to_rgb")) ⟨[x, y, z], []⟩ = pure [(Str.ofString "h", x), (Str.ofString "s", y), (Str.ofString "v", z)]
  f6 : FnK K "_law_shade" dShd
  b6 : ∀ x, bindArgs (fdOf K (globA K "_law_shade")) ⟨[x], []⟩ = pure [(Str.ofString "k", x)]
  f7 : FnK K "_law_rest" dRst
  b7 : ∀ x y, bindArgs (fdOf K (globA K "_law_rest")) ⟨[x, y], []⟩ = pure [(Str.ofString "run", x), (Str.ofString "step", y)]
  f8 : FnK K "law" dLaw
  b8 : ∀ x, bindArgs (fdOf K (globA K "law")) ⟨[x], []⟩ = pure [(Str.ofString "script", x)]
theorem boot_pr : ∀ q ∈ prTab, bootBuiltins q.1 = some q.2.1.val ∧ q.1 ≠ "__name__" := by
  unfold prTab
  intro q hq
  simp only [List.mem_cons, List.not_mem_nil, or_false] at hq
  rcases hq with rfl | rfl | rfl | rfl | rfl | rfl | rfl | rfl | rfl | rfl | rfl | rfl | rfl <;> exact ⟨by kernel_rfl, by decide⟩
theorem pr_val : ∀ q ∈ prTab, q.2.2 = q.2.1.val := by
  unfold prTab
  intro q hq
  simp only [List.mem_cons, List.not_mem_nil, or_false] at hq
  rcases hq with rfl | rfl | rfl | rfl | rfl | rfl | rfl | rfl | rfl | rfl | rfl | rfl | rfl <;> rfl

variable {B : Bs} {K : Frag} {C p1 p2 c1 P1 c2 P2 : Addr}
theorem nv_all (kb : KB B K) (H : Hold K C p1 p2 c1 P1 c2 P2) (hb : ∀ x : Str, x ≠ "__name__" → B.mb x = bootBuiltins x) (hP1 : P1 ∈ B.tb) (hP2 : P2 ∈ B.tb) (hd1 : B.dn P1 = (stPos dI2i, Str.ofString "_int2digits.<locals>.inner")) (hd2 : B.dn P2 = (stPos dD2n, Str.ofString "_digits2int.<locals>.inner"))
    (bm1 : B.h0.BuiltinsAt B.mg P1) (bm2 : B.h0.BuiltinsAt B.mg P2) : NvOk B 90 (X14 C p1 p2) := by
  have mgn : ∀ {x : Str}, noneIn K mainGlobals x = true → B.mg x = none := fun h => mg_none_of kb.in0 B.hg (noneIn_of h)
  have n0 : Nat0 B K C p1 p2 := by
    refine ⟨kb, H.hk, H.pn.at kb.in0, H.pv.at kb.in0, ?_, mg_of kb.in0 B.hg H.kn, mg_of kb.in0 B.hg H.kv, fun x p h => ?_, ⟨mgn H.ps, ?_⟩, ⟨mgn H.pl, ?_⟩⟩
    · exact ⟨_, mg_of kb.in0 B.hg H.kl⟩
    · have hm := look_mem h
      have h2 := boot_pr _ hm
      exact ⟨mgn (List.all_eq_true.mp H.pr _ hm), (hb x h2.2).trans h2.1⟩
    · exact (hb _ (by decide)).trans (by kernel_rfl)
    · exact (hb _ (by decide)).trans (by kernel_rfl)
  have v0 : NvOk B 4 (nat0 C p1 p2) := nat0_ok n0
  have v1 : NvOk B 1 (X1 C p1 p2) := X1_ok n0 (H.mCv.at kb) H.bCv
  have v2 : NvOk B 2 (X2 C p1 p2) := X2_ok v1 kb H.hk (H.mGa.at kb) H.bGa
  have v3 : NvOk B 4 (X3 C p1 p2) := X3_ok v2 kb H.hk (mg_of kb.in0 B.hg H.cC) (H.mIn.at kb) H.bIn.bind
  have v4 : NvOk B 74 (X4 C p1 p2) := X4_ok v0 (v3.more (by omega)) (H.nI.at kb hP1 hd1 bm1) H.bI
  have v5 : NvOk B 74 (X5 C p1 p2) := X5_ok v0 v4 (H.nD.at kb hP2 hd2 bm2) H.bD
  have v6 : NvOk B 75 (X6 C p1 p2) := X6_ok v5 (H.f1.gf kb (by kernel_rfl) (bind3 H.b1))
  have v7 : NvOk B 76 (X7 C p1 p2) := X7_ok v6 (mgn H.prv) ((hb _ (by decide)).trans (by kernel_rfl)) (H.f2.gf kb (by kernel_rfl) (bind2 H.b2))
  have v8 : NvOk B 77 (X8 C p1 p2) := X8_ok v7 (H.f3.gf kb (by kernel_rfl) (bind2 H.b3))
  have v9 : NvOk B 78 (X9 C p1 p2) := X9_ok v8 (H.f3.gf kb (by kernel_rfl) (bind2 H.b3))
  have v10 : NvOk B 79 (X10 C p1 p2) := X10_ok v9 (H.f4.gf kb (by kernel_rfl) (bind3 H.b4)) (H.f5.gf kb (by kernel_rfl) (bind3 H.b5))
  have v11 : NvOk B 80 (X11 C p1 p2) := X11_ok v10 (H.f6.gf kb (by kernel_rfl) (bind1 H.b6))
  have v12 : NvOk B 81 (X12 C p1 p2) := X12_ok v11 (H.f7.gf kb (by kernel_rfl) (bind2 H.b7))
  have v13 : NvOk B 82 (X13 C p1 p2) := X13_ok v12 (H.f7.gf kb (by kernel_rfl) (bind2 H.b7))
  have v14 : NvOk B 83 (X14 C p1 p2) := X14_ok v13 (H.f7.gf kb (by kernel_rfl) (bind2 H.b7))
  exact v14.more (by omega)
end Mine

end
section
open PySem PySem.W PyProof.Rows
set_option Elab.async false
set_option maxRecDepth 100000
set_option exponentiation.threshold 10000
namespace Mine

theorem rd_ints {G : Gh} {h : Heap} : ∀ {vs : List Value} {ns : List Int}, IntsAre vs ns → RdL G h vs (scrD ns)
  | _, _, .nil => .nil
  | _, _, .cons n t r => .cons (.int n t) (rd_ints r)
variable {prog : Program} {w : World} {s₁ : Shared} {mg mb : Str → Option Value} {K0 : Frag} {C p1 p2 c1 P1 c2 P2 : Addr}
/-- the call's end: what was old stands, but for the code tables, which grow -/
theorem call_fin {B : Bs} {L : Nat} {f : Value} {a : Addr} {its : Array Value} {ns : List Int} {Q E : Value → Shared → Prop} (h0 : B.h0 = s₁.heap) (tabs : ∀ b ∈ B.tb, isCodeTable s₁.heap b ∧ s₁.heap.get? b = some (tabO #[])) (htk : 1 ≤ s₁.toks)
    (ha : s₁.heap.get? a = some { cls := .type "list", data := .seq its }) (hI : IntsAre its.toList ns) (hcall : OkCall B L f [.lst (scrD ns)] (.bool true)) (hR : Room L callerA)
    (hQ : ∀ s', OldK s₁.heap s'.heap → s'.os = s₁.os → s'.gens = s₁.gens → Q (.bool true) s') : wpAny B.M callerA (call f [.ref a]) Q E s₁ := by
  have tq : TQ B.tb B.dn s₁.heap := fun P hP => .inl (tabs P hP).2
  have haO : a ∉ B.tb := fun hm => by rw [(tabs a hm).2] at ha; cases ha
  have st : St B ⟨B.tb, fun _ => 0, 1⟩ s₁ := ⟨fun b o _ e => h0 ▸ e, tq, fun a h => h, fun a ha => Heap.lt_size (tabs a ha).2, htk, Nat.one_pos⟩
  refine (hcall callerA ⟨B.tb, fun _ => 0, 1⟩ s₁ [.ref a] E Q hR st (.cons (.lst haO ha (rd_ints hI)) .nil) fun v G' s' ke rd => ?_).w
  obtain rfl := show v = .bool true from rd.boolK rfl
  obtain ⟨h', tk, es⟩ := ke.same
  have tq' := ke.tg tq
  refine hQ s' ⟨fun b o e => ?_, fun b o e => ?_⟩ (by rw [es]) (by rw [es])
  · by_cases hb : b ∈ B.tb
    · obtain ⟨hc1, hc2⟩ := tabs b hb
      obtain ⟨vs, hvs⟩ := TQ.some tq' hb
      obtain rfl := Option.some.inj (hc2.symm.trans e)
      exact .inr (.inl ⟨hc1, rfl, #[], vs, rfl, by rw [Array.empty_append]; exact hvs⟩)
    · exact .inl (ke.kp b o hb e)
  · by_cases hb : b ∈ B.tb
    · obtain ⟨vs, hvs⟩ := TQ.some tq' hb
      exact ⟨_, hvs⟩
    · exact ⟨_, ke.kp b o hb e⟩
theorem two_tab {P : Addr → Prop} {a b : Addr} (h1 : P a) (h2 : P b) : ∀ x ∈ [a, b], P x := fun x hx => (List.mem_cons.mp hx).elim (fun e => e ▸ h1) fun hx => List.mem_singleton.mp hx ▸ h2
theorem bat_of {P bm : Addr} {ob : Obj} (hg : s₁.heap.Ns mainGlobals mg) (q1 : mg "__builtins__" = some (.ref bm)) (q2 : bm ≠ builtinsNs) (q3 : s₁.heap.get? bm = some ob) (q4 : ob.cls = .type "module") (q5 : ob.dict = some builtinsNs) (q6 : ob.data = .plain)
    (hP : s₁.heap.get? P = some (tabO #[])) : s₁.heap.BuiltinsAt mg P := by
  refine ⟨bm, ob, q1, q2, fun e => ?_, fun e => ?_, q3, q4, q5, q6⟩
  · obtain ⟨o, es, ep, ho, hd, _⟩ := hg
    rw [← e, q3] at ho
    rw [← Option.some.inj ho, q6] at hd; cases hd
  · rw [← e, q3] at hP
    rw [Option.some.inj hP] at q4; cases q4
noncomputable def tabDn (P1 : Addr) : Addr → Pos × Str := fun P => if P = P1 then (stPos dI2i, Str.ofString "_int2digits.<locals>.inner") else (stPos dD2n, Str.ofString "_digits2int.<locals>.inner")
theorem law_callB {B : Bs} (hb0 : B.h0 = s₁.heap) (htb : B.tb = [P1, P2]) (hdn : B.dn = tabDn P1) (Koff : (offT P1 P2 K0).In s₁.heap) (H : Hold (offT P1 P2 K0) C p1 p2 c1 P1 c2 P2) (e1 : s₁.heap.get? P1 = some (tabO #[])) (e2 : s₁.heap.get? P2 = some (tabO #[])) (hne : P2 ≠ P1)
    (hbb : ∀ x : Str, x ≠ "__name__" → B.mb x = bootBuiltins x) (bat : ∀ P, s₁.heap.get? P = some (tabO #[]) → s₁.heap.BuiltinsAt B.mg P) (htk : 1 ≤ s₁.toks)
    {a : Addr} {its : Array Value} {ns : List Int} (ha : s₁.heap.get? a = some { cls := .type "list", data := .seq its }) (hI : IntsAre its.toList ns) (hlen : ns.length ≤ 1000) {fa : Addr} (hfa : B.mg "law" = some (.ref fa)) {Q E : Value → Shared → Prop}
    (hQ : ∀ s', OldK s₁.heap s'.heap → s'.os = s₁.os → s'.gens = s₁.gens → Q (.bool true) s') : wpAny B.M callerA (call (.ref fa) [.ref a]) Q E s₁ := by
  have kb : KB B (offT P1 P2 K0) := ⟨hb0 ▸ Koff, fun a o e hm => by
    obtain ⟨_, h1, h2⟩ := offT_in e
    rw [htb] at hm
    exact two_tab (P := fun x => a = x → False) h1 h2 a hm rfl⟩
  have nv := nv_all (B := B) kb H hbb (by rw [htb]; exact List.mem_cons_self) (by rw [htb]; exact List.mem_cons_of_mem _ List.mem_cons_self) (by rw [hdn]; exact if_pos rfl) (by rw [hdn]; exact if_neg hne) (hb0 ▸ bat _ e1) (hb0 ▸ bat _ e2)
  obtain ⟨fa', hfa', fat⟩ := H.f8.gf kb (by kernel_rfl) (bind1 H.b8)
  have hfe : fa' = fa := Value.ref.inj (Option.some.inj ((show B.mg "law" = some (.ref fa') from hfa').symm.trans hfa))
  subst hfe
  refine call_fin hb0 ?_ htk ha hI (fn_ok fat (evS_ok nv noHk_ok 12 9 12) (law_run (C := C) (p1 := p1) (p2 := p2) (xs := ns) hlen fit_all)) ⟨rfl, by decide, by decide⟩ hQ
  rw [htb]
  exact two_tab ⟨((codeHd_of_K Koff H.nI.ch).tab e1).isCodeTable, e1⟩ ⟨((codeHd_of_K Koff H.nD.ch).tab e2).isCodeTable, e2⟩
theorem law_call (KIn : K0.In s₁.heap) (H : Hold (offT P1 P2 K0) C p1 p2 c1 P1 c2 P2) (t1 : K0.lookup P1 = some (tabO #[])) (t2 : K0.lookup P2 = some (tabO #[])) (hl1 : P1 ≠ mainGlobals ∧ P1 ≠ builtinsNs ∧ P1 ≠ cStatics) (hl2 : P2 ≠ mainGlobals ∧ P2 ≠ builtinsNs ∧ P2 ≠ cStatics) (hne : P2 ≠ P1)
    (hg : s₁.heap.Ns mainGlobals mg) (hbn : s₁.heap.Ns builtinsNs mb) (hnl : s₁.heap.NoLimit) (hbb : ∀ x : Str, x ≠ "__name__" → mb x = bootBuiltins x)
    (hbm : ∃ bm ob, mg "__builtins__" = some (.ref bm) ∧ bm ≠ builtinsNs ∧ s₁.heap.get? bm = some ob ∧ ob.cls = .type "module" ∧ ob.dict = some builtinsNs ∧ ob.data = .plain) (htk : 1 ≤ s₁.toks)
    {a : Addr} {its : Array Value} {ns : List Int} (ha : s₁.heap.get? a = some { cls := .type "list", data := .seq its }) (hI : IntsAre its.toList ns) (hlen : ns.length ≤ 1000) {fa : Addr} (hfa : mg "law" = some (.ref fa)) {Q E : Value → Shared → Prop}
    (hQ : ∀ s', OldK s₁.heap s'.heap → s'.os = s₁.os → s'.gens = s₁.gens → Q (.bool true) s') : wpAny (model prog w) callerA (call (.ref fa) [.ref a]) Q E s₁ := by
  obtain ⟨bm, ob, q1, q2, q3, q4, q5, q6⟩ := hbm
  obtain ⟨mc, hc, hlim⟩ := hnl
  have e1 : s₁.heap.get? P1 = some (tabO #[]) := KIn _ _ t1
  have e2 : s₁.heap.get? P2 = some (tabO #[]) := KIn _ _ t2
  have Koff : (offT P1 P2 K0).In s₁.heap := fun a o e => KIn a o (offT_in e).1
  exact law_callB (B := { prog := prog, w := w, h0 := s₁.heap, tb := [P1, P2], mg := mg, mb := mb, mc := mc, hg := hg, hb := hbn, hc := hc, lim := hlim, shr := ns_none_of Koff hc (noneIn_of H.shr), low := two_tab hl1 hl2, dn := tabDn P1, tab := two_tab (.inl e1) (.inl e2) })
    rfl rfl rfl Koff H e1 e2 hne hbb (fun P hP => bat_of hg q1 q2 q3 q4 q5 q6 hP) htk ha hI hlen hfa hQ
end Mine

end
section
open PySem PySem.W PyProof.Rows PySem.Calls PySem.W.X
set_option maxRecDepth 100000 in
set_option maxHeartbeats 0 in
theorem PySem.Challenge.cw_pu0068_02_holds : PySem.Challenge.rw_pu0068_02.Holds := by
  w_on; o_law; z_head; (case hw => w_witness2)
  intro w s₀ s₁ mg mb G y fa o pm cd doc dV kV ho hd hcd hD hmg hg args vals as L hpre hlay hrd hwl hlo
  have Z := z_facts (fun _ => by kernel_rfl) y
  refine Ground.open G ?_
  intro T B D TE TW
  wrow_args hpre hlay hrd hwl hlo
  rename_i ns hs hlay0 hL1 hr1 hl2 w4 w3 a vs w0 hL ra w1 r0 hI hr hc1 hc2
  have hobj := script_obj L hL
  have htk := script_toks L Z.2.2.2
  refine Mine.law_call (C := 169) (p1 := 43) (p2 := 48) (c1 := 193) (P1 := 189) (c2 := 200) (P2 := 196) (Frag.In.keeps Z.2.1 L.keeps) ?_ (by kernel_rfl) (by kernel_rfl) (by decide) (by decide) (by decide)
    T.g T.b T.nolimit T.builtins T.bmain (Nat.le_trans (by decide) htk) hobj hI (by omega) hmg ?_
  · refine ⟨⟨by kernel_rfl, by kernel_rfl, by kernel_rfl, by kernel_rfl, by kernel_rfl, by kernel_rfl, by kernel_rfl, by kernel_rfl⟩, by kernel_rfl, ?_, ?_, by kernel_rfl, by kernel_rfl, by kernel_rfl, by kernel_rfl, by kernel_rfl, by kernel_rfl, by kernel_rfl, by kernel_rfl, by kernel_rfl,
      ⟨by kernel_rfl, by kernel_rfl, by kernel_rfl, by kernel_rfl⟩, ⟨by kernel_rfl, by kernel_rfl, by kernel_rfl, by kernel_rfl⟩, ⟨by kernel_rfl, by kernel_rfl, by kernel_rfl, by kernel_rfl⟩,
      fun _ _ _ => by kernel_rfl, ⟨by kernel_rfl, by kernel_rfl, by kernel_rfl, by kernel_rfl⟩, fun _ _ => by kernel_rfl,
      ⟨⟨by kernel_rfl, by kernel_rfl, by kernel_rfl, by kernel_rfl⟩, by kernel_rfl, by kernel_rfl, by kernel_rfl⟩, ⟨⟨by kernel_rfl, by kernel_rfl, by kernel_rfl, by kernel_rfl⟩, by kernel_rfl, by kernel_rfl, by kernel_rfl⟩,
      fun _ _ => by kernel_rfl, fun _ _ => by kernel_rfl,
      ⟨by kernel_rfl, by kernel_rfl, by kernel_rfl, by kernel_rfl⟩, fun _ _ _ => by kernel_rfl,
      ⟨by kernel_rfl, by kernel_rfl, by kernel_rfl, by kernel_rfl⟩, fun _ _ => by kernel_rfl,
      ⟨by kernel_rfl, by kernel_rfl, by kernel_rfl, by kernel_rfl⟩, fun _ _ => by kernel_rfl,
      ⟨by kernel_rfl, by kernel_rfl, by kernel_rfl, by kernel_rfl⟩, fun _ _ _ => by kernel_rfl,
      ⟨by kernel_rfl, by kernel_rfl, by kernel_rfl, by kernel_rfl⟩, fun _ _ _ => by kernel_rfl,
      ⟨by kernel_rfl, by kernel_rfl, by kernel_rfl, by kernel_rfl⟩, fun _ => by kernel_rfl,
      ⟨by kernel_rfl, by kernel_rfl, by kernel_rfl, by kernel_rfl⟩, fun _ _ => by kernel_rfl,
      ⟨by kernel_rfl, by kernel_rfl, by kernel_rfl, by kernel_rfl⟩, fun _ => by kernel_rfl⟩
    · exact ⟨by kernel_rfl, by kernel_rfl, by kernel_rfl, by kernel_rfl, by kernel_rfl, by kernel_rfl, by kernel_rfl, by kernel_rfl, by kernel_rfl, by kernel_rfl⟩
    · exact ⟨by kernel_rfl, by kernel_rfl, by kernel_rfl, by kernel_rfl, by kernel_rfl, by kernel_rfl, by kernel_rfl, by kernel_rfl, by kernel_rfl, by kernel_rfl⟩
  · intro s' hold hos hgen
    exact ⟨.inl ⟨.bool true, .bool true, [], rfl, fun _ => rfl, .bool true, by kernel_rfl, fun _ => ⟨List.nodup_nil, fun _ h => nomatch h⟩⟩, hold, hos, .of_eq (hgen.trans hg)⟩
end
