import PyProof.Rows.All
import Wide.All
import OpenK.AllK
import Wide.FinOn
import PySem.Challenge.RW_oy0096_01
set_option Elab.async false
section
open PySem PySem.W PyProof.Rows
set_option maxRecDepth 100000
set_option maxHeartbeats 8000000
namespace Mine
open_top hd for PySem.Challenge.rw_oy0096_01
end Mine
end
section
open PySem PySem.W PyProof.Rows
namespace Mine
noncomputable abbrev Grow (h h' : Heap) : Prop := ∀ b o, h.get? b = some o → h'.get? b = some o
theorem Grow.refl (h : Heap) : Grow h h := fun _ _ e => e
theorem Grow.trans {h₁ h₂ h₃ : Heap} (a : Grow h₁ h₂) (b : Grow h₂ h₃) : Grow h₁ h₃ := fun x o e => b x o (a x o e)
theorem keeps_refl (s : Shared) : Keeps s s := ⟨s.heap, s.toks, rfl, fun _ _ e => e⟩
theorem keeps_tok (s : Shared) (t : Nat) : Keeps s { s with toks := t } := ⟨s.heap, t, rfl, fun _ _ e => e⟩
theorem keeps_trans {a b c : Shared} (x : Keeps a b) (y : Keeps b c) : Keeps a c := by
  obtain ⟨h, t, rfl, k⟩ := x
  obtain ⟨h', t', rfl, k'⟩ := y
  exact ⟨h', t', rfl, fun b o e => k' b o (k b o e)⟩
theorem keeps_grow {a b : Shared} (x : Keeps a b) : Grow a.heap b.heap := by
  obtain ⟨h, t, rfl, k⟩ := x; exact k
theorem grow_push (h : Heap) (o : Obj) : Grow h (h.push o) := fun _ _ e => Heap.get?_push_of_some _ e
mutual
/-- the value v reads as the data d, by lists and tuples outside X -/
inductive Rp (X : Addr → Prop) (h : Heap) : Value → PyData → Prop
  | none : Rp X h .none .none
  | bool (b) : Rp X h (.bool b) (.bool b)
  | int (i t) : Rp X h (.int i t) (.int i)
  | str (x t) : Rp X h (.str x t) (.str x)
  | list {a vs n xs} : h.get? a = some { cls := .type "list", data := .seq vs n } → ¬ X a → RpL X h vs.toList xs → Rp X h (.ref a) (.list xs)
  | tuple {a vs n xs} : h.get? a = some { cls := .type "tuple", data := .seq vs n } → ¬ X a → RpL X h vs.toList xs → Rp X h (.ref a) (.tuple xs)
  | opq (a) : Rp X h (.ref a) (.dict [(.int (a : Nat), .none)])
inductive RpL (X : Addr → Prop) (h : Heap) : List Value → List PyData → Prop
  | nil : RpL X h [] []
  | cons {v vs d ds} : Rp X h v d → RpL X h vs ds → RpL X h (v :: vs) (d :: ds)
end
mutual
theorem Rp.move {X Y : Addr → Prop} {h h' : Heap} (k : ∀ a o vs n, ¬ X a → o.data = .seq vs n → h.get? a = some o → h'.get? a = some o ∧ ¬ Y a) :
    ∀ {v : Value} {d : PyData}, Rp X h v d → Rp Y h' v d
  | _, _, .none => .none
  | _, _, .bool b => .bool b
  | _, _, .int i t => .int i t
  | _, _, .str x t => .str x t
  | _, _, .list a x r => .list (k _ _ _ _ x rfl a).1 (k _ _ _ _ x rfl a).2 (RpL.move k r)
  | _, _, .tuple a x r => .tuple (k _ _ _ _ x rfl a).1 (k _ _ _ _ x rfl a).2 (RpL.move k r)
  | _, _, .opq a => .opq a
theorem RpL.move {X Y : Addr → Prop} {h h' : Heap} (k : ∀ a o vs n, ¬ X a → o.data = .seq vs n → h.get? a = some o → h'.get? a = some o ∧ ¬ Y a) :
    ∀ {vs : List Value} {ds : List PyData}, RpL X h vs ds → RpL Y h' vs ds
  | _, _, .nil => .nil
  | _, _, .cons a b => .cons (Rp.move k a) (RpL.move k b)
end
theorem Rp.grow {X : Addr → Prop} {h h' : Heap} {v : Value} {d : PyData} (r : Rp X h v d) (g : Grow h h') : Rp X h' v d := r.move fun a o _ _ x _ e => ⟨g a o e, x⟩
theorem RpL.grow {X : Addr → Prop} {h h' : Heap} {v : List Value} {d : List PyData} (r : RpL X h v d) (g : Grow h h') : RpL X h' v d := r.move fun a o _ _ x _ e => ⟨g a o e, x⟩
/-- a step that turns only one object that is no sequence -/
theorem Rp.ns {X : Addr → Prop} {h h' : Heap} {v : Value} {d : PyData} {L : Addr} {m : Str → Option Value} (r : Rp X h v d) (hn : h.Ns L m) (hs : Heap.SameBut L h h') : Rp X h' v d :=
  r.move fun a o vs n x c e => by
    refine ⟨(hs.2 a fun q => ?_).trans e, x⟩
    subst q
    obtain ⟨o', es, ep, ho, hd, _⟩ := hn
    rw [ho] at e; cases e; rw [hd] at c; cases c
theorem Rp.less {X Y : Addr → Prop} {h : Heap} {v : Value} {d : PyData} (r : Rp X h v d) (k : ∀ a, Y a → X a) : Rp Y h v d := r.move fun a _ _ _ x _ e => ⟨e, fun y => x (k a y)⟩
theorem RpL.less {X Y : Addr → Prop} {h : Heap} {v : List Value} {d : List PyData} (r : RpL X h v d) (k : ∀ a, Y a → X a) : RpL Y h v d := r.move fun a _ _ _ x _ e => ⟨e, fun y => x (k a y)⟩
/-- X grows by an address at which nothing stands -/
theorem Rp.more {X Y : Addr → Prop} {h : Heap} {v : Value} {d : PyData} (r : Rp X h v d) (k : ∀ a, Y a → X a ∨ h.get? a = Option.none) : Rp Y h v d :=
  r.move fun a _ _ _ x _ e => ⟨e, fun y => (k a y).elim x fun z => by rw [z] at e; cases e⟩
theorem RpL.length {X : Addr → Prop} {h : Heap} : ∀ {vs : List Value} {ds : List PyData}, RpL X h vs ds → vs.length = ds.length
  | _, _, .nil => rfl
  | _, _, .cons _ r => congrArg (· + 1) r.length
theorem RpL.append {X : Addr → Prop} {h : Heap} : ∀ {vs us : List Value} {ds es : List PyData}, RpL X h vs ds → RpL X h us es → RpL X h (vs ++ us) (ds ++ es)
  | _, _, _, _, .nil, r => r
  | _, _, _, _, .cons a b, r => .cons a (b.append r)
theorem RpL.get {X : Addr → Prop} {h : Heap} : ∀ {vs : List Value} {ds : List PyData}, RpL X h vs ds → ∀ {i : Nat} {d : PyData}, ds[i]? = some d → ∃ v, vs[i]? = some v ∧ Rp X h v d
  | _, _, .nil, _, _, e => by simp at e
  | _, _, .cons a b, 0, d, e => by simp at e; subst e; exact ⟨_, rfl, a⟩
  | _, _, .cons a b, i + 1, d, e => by
    obtain ⟨v, hv, r⟩ := b.get (i := i) (by simpa using e)
    exact ⟨v, by simpa using hv, r⟩
theorem RpL.get' {X : Addr → Prop} {h : Heap} {vs : List Value} {ds : List PyData} (r : RpL X h vs ds) {i : Nat} {v : Value} (e : vs[i]? = some v) : ∃ d, ds[i]? = some d ∧ Rp X h v d := by
  have hl := r.length
  have hi : i < ds.length := by rw [← hl]; exact (List.getElem?_eq_some_iff.mp e).1
  obtain ⟨v', hv, q⟩ := r.get (i := i) (d := ds[i]) (by simp)
  rw [e] at hv; cases hv
  exact ⟨_, by simp, q⟩
/-- a thing known by its address alone -/
noncomputable abbrev opq (a : Addr) : PyData := .dict [(.int (a : Nat), .none)]
mutual
theorem Rp.reads {X : Addr → Prop} {h : Heap} : ∀ {v : Value} {d : PyData}, Rp X h v d → d.canLay0 = true → ∃ as, Reads h v d as
  | _, _, .none, _ => ⟨_, .none⟩
  | _, _, .bool b, _ => ⟨_, .bool b⟩
  | _, _, .int i t, _ => ⟨_, .int i t⟩
  | _, _, .str x t, _ => ⟨_, .str x t⟩
  | _, _, .list a _ r, c => let ⟨_, q⟩ := RpL.reads r c; ⟨_, .list a rfl rfl q⟩
  | _, _, .tuple a _ r, c => let ⟨_, q⟩ := RpL.reads r c; ⟨_, .tuple a rfl rfl q⟩
  | _, _, .opq a, c => by cases c
theorem RpL.reads {X : Addr → Prop} {h : Heap} : ∀ {vs : List Value} {ds : List PyData}, RpL X h vs ds → PyData.canLayAll0 ds = true → ∃ as, ReadsAll h vs ds as
  | _, _, .nil, _ => ⟨_, .nil⟩
  | _, _, .cons a b, c => let ⟨_, q⟩ := Rp.reads a (Bool.and_eq_true_iff.mp c).1; let ⟨_, z⟩ := RpL.reads b (Bool.and_eq_true_iff.mp c).2; ⟨_, .cons q z⟩
end
noncomputable abbrev XI (X : Addr → Prop) (h : Heap) : Prop := ∀ a, X a → ∃ o, h.get? a = some o
theorem XI.fresh {X : Addr → Prop} {h : Heap} (x : XI X h) : ¬ X h.objs.size := fun q => by
  obtain ⟨o, e⟩ := x _ q
  exact absurd (Heap.lt_size e) (Nat.lt_irrefl _)
theorem XI.notnone {X : Addr → Prop} {h : Heap} {a : Addr} (x : XI X h) (e : h.get? a = none) : ¬ X a := fun q => by
  obtain ⟨o, z⟩ := x _ q
  rw [e] at z; cases z
/-- where a name's value lies -/
noncomputable def At (env : Env) (m cm : Str → Option Value) (x : Str) (v : Value) : Prop :=
  (env.kindOf x = some .local ∧ m x = some v) ∨ ((env.kindOf x = some .cell ∨ env.kindOf x = some .free) ∧ (∃ c, env.cells.lookup x = some c) ∧ cm x = some v)
/-- the scope env binds bs -/
noncomputable def Sc (X : Addr → Prop) (env : Env) (bs : List (Str × PyData)) (h : Heap) : Prop :=
  ∃ m cm, h.Ns env.locals m ∧ (∀ n c, env.cells.lookup n = some c → h.IsCell c (cm n)) ∧ ∀ x d, bs.lookup x = some d → ∃ v, Rp X h v d ∧ At env m cm x v
theorem Sc.grow {X : Addr → Prop} {env : Env} {bs : List (Str × PyData)} {h h' : Heap} (q : Sc X env bs h) (g : Grow h h') : Sc X env bs h' := by
  obtain ⟨m, cm, a, b, c⟩ := q
  exact ⟨m, cm, a.keeps g, fun n c' e => (b n c' e).keeps g, fun x d e => let ⟨v, r, z⟩ := c x d e; ⟨v, r.grow g, z⟩⟩
structure Ok (hT : Heap) (X : Addr → Prop) (env : Env) (bs : List (Str × PyData)) (h : Heap) : Prop where
  kind : env.scope.kind = .function
  sc : Sc X env bs h
  top : Grow hT h
  xi : XI X h
theorem Ok.grow {hT : Heap} {X : Addr → Prop} {env : Env} {bs : List (Str × PyData)} {h h' : Heap} (q : Ok hT X env bs h) (g : Grow h h') : Ok hT X env bs h' :=
  ⟨q.kind, q.sc.grow g, q.top.trans g, fun a x => let ⟨o, e⟩ := q.xi a x; ⟨o, g a o e⟩⟩
theorem Ok.ns {hT : Heap} {X : Addr → Prop} {env : Env} {bs : List (Str × PyData)} {h : Heap} (q : Ok hT X env bs h) : ∃ L m, h.Ns L m := let ⟨m, _, a, _⟩ := q.sc; ⟨_, m, a⟩
theorem Ok.keeps {hT : Heap} {X : Addr → Prop} {env : Env} {bs : List (Str × PyData)} {s s' : Shared} (q : Ok hT X env bs s.heap) (g : Keeps s s') : Ok hT X env bs s'.heap := q.grow (keeps_grow g)
section
variable (prog : Program) (w : World) (hT : Heap) (A : Around) (X : Addr → Prop) (env : Env) (bs : List (Str × PyData))
/-- what a step gives -/
noncomputable abbrev Gives (s : Shared) (X : Addr → Prop) (d : PyData) : Value → Shared → Prop := fun v s' => Keeps s s' ∧ Rp X s'.heap v d
noncomputable def EV (e : PySem.Expr) (d : PyData) : Prop :=
  ∀ (s : Shared) (E : Value → Shared → Prop), Ok hT X env bs s.heap → wpAny (model prog w) A (eval e env) (Gives s X d) E s
noncomputable def TR (e : PySem.Expr) (b : Bool) : Prop :=
  ∀ (s : Shared) (E : Value → Shared → Prop), Ok hT X env bs s.heap → wpAny (model prog w) A (isTrue e env (eval e env)) (fun r s' => r = b ∧ Keeps s s') E s
/-- a two-place operation on data -/
noncomputable def Op2 (t : Value → Value → Sem Value) (da db d : PyData) : Prop :=
  ∀ (s : Shared) (E : Value → Shared → Prop) (a b : Value), XI X s.heap → (∃ L m, s.heap.Ns L m) → Rp X s.heap a da → Rp X s.heap b db → wpAny (model prog w) A (t a b) (Gives s X d) E s
end
variable {prog : Program} {w : World} {hT : Heap} {A : Around} {X : Addr → Prop} {env : Env} {bs : List (Str × PyData)}
theorem ev_bin {l r : PySem.Expr} {op : PySem.Operator} {pos : Pos} {da db d : PyData} (hl : EV prog w hT A X env bs l da) (hr : EV prog w hT A X env bs r db)
    (h : Op2 prog w A X (binaryOp op) da db d) : EV prog w hT A X env bs (.BinOp l op r pos) d := by
  intro s E ok
  refine wpAny_BinOp (wpAny_mono (hl s E ok) ?_ fun _ _ e => e)
  rintro a s₁ ⟨k1, r1⟩
  refine wpAny_mono (hr s₁ E (ok.keeps k1)) ?_ fun _ _ e => e
  rintro b s₂ ⟨k2, r2⟩
  refine wpAny_mono (h s₂ E a b ((ok.keeps k1).keeps k2).xi ((ok.keeps k1).keeps k2).ns (r1.grow (keeps_grow k2)) r2) ?_ fun _ _ e => e
  rintro v s₃ ⟨k3, r3⟩
  exact ⟨keeps_trans k1 (keeps_trans k2 k3), r3⟩
theorem ev_cmp {l r : PySem.Expr} {op : CmpOp} {pos : Pos} {da db d : PyData} (hl : EV prog w hT A X env bs l da) (hr : EV prog w hT A X env bs r db)
    (h : Op2 prog w A X (compareOp op) da db d) (hm : behindInMarks op r = false := by with_unfolding_all rfl) : EV prog w hT A X env bs (.Compare l [op] [r] pos) d := by
  intro s E ok
  refine wpAny_Compare1 (wpAny_mono (hl s E ok) ?_ fun _ _ e => e) hm
  rintro a s₁ ⟨k1, r1⟩
  refine wpAny_mono (hr s₁ E (ok.keeps k1)) ?_ fun _ _ e => e
  rintro b s₂ ⟨k2, r2⟩
  refine wpAny_mono (h s₂ E a b ((ok.keeps k1).keeps k2).xi ((ok.keeps k1).keeps k2).ns (r1.grow (keeps_grow k2)) r2) ?_ fun _ _ e => e
  rintro v s₃ ⟨k3, r3⟩
  exact ⟨keeps_trans k1 (keeps_trans k2 k3), r3⟩
theorem tr_cmp {l r : PySem.Expr} {op : CmpOp} {pos : Pos} {da db : PyData} {b : Bool} (hl : EV prog w hT A X env bs l da) (hr : EV prog w hT A X env bs r db)
    (h : Op2 prog w A X (compareOp op) da db (.bool b)) (hm : behindInMarks op r = false := by with_unfolding_all rfl) : TR prog w hT A X env bs (.Compare l [op] [r] pos) b := by
  intro s E ok
  refine wpAny_isTrue_Compare1 (wpAny_mono (hl s E ok) ?_ fun _ _ e => e) hm
  rintro a s₁ ⟨k1, r1⟩
  refine wpAny_mono (hr s₁ E (ok.keeps k1)) ?_ fun _ _ e => e
  rintro b' s₂ ⟨k2, r2⟩
  refine wpAny_mono (h s₂ E a b' ((ok.keeps k1).keeps k2).xi ((ok.keeps k1).keeps k2).ns (r1.grow (keeps_grow k2)) r2) ?_ fun _ _ e => e
  rintro v s₃ ⟨k3, r3⟩
  cases r3
  exact wpAny_truthy_bool ⟨rfl, keeps_trans k1 (keeps_trans k2 k3)⟩
theorem ev_int {i : Int} {k : Nat} {pos : Pos} : EV prog w hT A X env bs (.Constant (.int i) k pos) (.int i) := fun s _ _ => wpAny_Constant_int ⟨keeps_tok s _, .int _ _⟩
theorem ev_str {x : Str} {k : Nat} {pos : Pos} : EV prog w hT A X env bs (.Constant (.str x) k pos) (.str x) := fun s _ _ => wpAny_Constant_str ⟨keeps_tok s _, .str _ _⟩
theorem ev_bool {x : Bool} {k : Nat} {pos : Pos} : EV prog w hT A X env bs (.Constant (.bool x) k pos) (.bool x) := fun s _ _ => wpAny_Constant_bool ⟨keeps_refl s, .bool _⟩
theorem ev_name {x : Str} {pos : Pos} {d : PyData} (hb : bs.lookup x = some d) (hd : (x == ("__debug__" : Str)) = false := by decide) (hc : (x == ("__classdict__" : Str)) = false := by decide) :
    EV prog w hT A X env bs (.Name x pos) d := by
  intro s E ok
  obtain ⟨m, cm, hn, hce, h⟩ := ok.sc
  obtain ⟨v, r, q⟩ := h x d hb
  rcases q with ⟨q1, q2⟩ | ⟨q1 | q1, ⟨c, q2⟩, q3⟩
  · exact wpAny_Name (wpAny_loadName_local ok.kind q1 hn q2 ⟨keeps_refl s, r⟩) hd
  · exact wpAny_Name (wpAny_loadName_cell ok.kind q1 q2 (q3 ▸ hce x c q2) ⟨keeps_refl s, r⟩) hd
  · exact wpAny_Name (wpAny_loadName_free ok.kind q1 q2 (q3 ▸ hce x c q2) ⟨keeps_refl s, r⟩ hc) hd
end Mine
end
section
open PySem PySem.W PyProof.Rows
namespace Mine
variable {prog : Program} {w : World} {hT : Heap} {A : Around} {X : Addr → Prop} {env : Env} {bs : List (Str × PyData)}
theorem op_add {a b : Int} : Op2 prog w A X (binaryOp .Add) (.int a) (.int b) (.int (a + b)) := by
  intro s E x y _ _ h1 h2; cases h1; cases h2; exact add_int ⟨keeps_tok s _, .int _ _⟩
theorem op_sub {a b : Int} : Op2 prog w A X (binaryOp .Sub) (.int a) (.int b) (.int (a - b)) := by
  intro s E x y _ _ h1 h2; cases h1; cases h2; exact sub_int ⟨keeps_tok s _, .int _ _⟩
theorem op_mul {a b : Int} (h : Builtin.Int.intBits a ≤ 64) : Op2 prog w A X (binaryOp .Mult) (.int a) (.int b) (.int (a * b)) := by
  intro s E x y _ _ h1 h2; cases h1; cases h2; exact mul_int ⟨keeps_tok s _, .int _ _⟩ (IntMulOk.of_left h)
theorem op_fdiv {a b : Int} (hb : b ≠ 0) (hp : Builtin.divisionGoesByPylong a b = false) : Op2 prog w A X (binaryOp .FloorDiv) (.int a) (.int b) (.int (a.fdiv b)) := by
  intro s E x y _ _ h1 h2; cases h1; cases h2; exact floordiv_int hb ⟨keeps_tok s _, .int _ _⟩ (.inl hp)
theorem op_mod {a b : Int} (hb : b ≠ 0) : Op2 prog w A X (binaryOp .Mod) (.int a) (.int b) (.int (a.fmod b)) := by
  intro s E x y _ _ h1 h2; cases h1; cases h2; exact mod_int' hb ⟨keeps_tok s _, .int _ _⟩
theorem op_pow {a n : Int} (hn : 0 ≤ n) (hn2 : n ≤ 1000000) (ha : a.natAbs < 2 ^ 64) : Op2 prog w A X (binaryOp .Pow) (.int a) (.int n) (.int (a ^ n.toNat)) := by
  intro s E x y _ _ h1 h2; cases h1; cases h2; exact pow_int_small hn hn2 ha ⟨keeps_tok s _, .int _ _⟩
theorem op_and {a b : Int} : Op2 prog w A X (binaryOp .BitAnd) (.int a) (.int b) (.int (Builtin.bitAnd a b)) := by
  intro s E x y _ _ h1 h2; cases h1; cases h2; exact and_int ⟨keeps_tok s _, .int _ _⟩
theorem op_sub_bool {a b : Bool} : Op2 prog w A X (binaryOp .Sub) (.bool a) (.bool b) (.int (b2i a - b2i b)) := by
  intro s E x y _ _ h1 h2; cases h1; cases h2; exact sub_bool ⟨keeps_tok s _, .int _ _⟩
theorem op_mul_ib {a : Int} {b : Bool} : Op2 prog w A X (binaryOp .Mult) (.int a) (.bool b) (.int (a * b2i b)) := by
  intro s E x y _ _ h1 h2; cases h1; cases h2; exact IntBool.mul_int_bool ⟨keeps_tok s _, .int _ _⟩
theorem op_add_ib {a : Int} {b : Bool} : Op2 prog w A X (binaryOp .Add) (.int a) (.bool b) (.int (a + b2i b)) := by
  intro s E x y _ _ h1 h2; cases h1; cases h2; exact add_int_bool ⟨keeps_tok s _, .int _ _⟩
/-- a new list of old things -/
theorem rp_new {s : Shared} {vs : Array Value} {xs : List PyData} (xi : XI X s.heap) (r : RpL X s.heap vs.toList xs) :
    Gives s X (.list xs) (.ref s.heap.objs.size) { s with heap := s.heap.push { cls := .type "list", data := .seq vs } } :=
  ⟨⟨_, s.toks, rfl, grow_push _ _⟩, .list (n := 0) (Heap.get?_push_size _ rfl) xi.fresh (r.grow (grow_push _ _))⟩
theorem op_cat {xs ys : List PyData} (h : xs.length + ys.length ≤ 1000000) : Op2 prog w A X (binaryOp .Add) (.list xs) (.list ys) (.list (xs ++ ys)) := by
  intro s E x y xi _ h1 h2
  cases h1 with
  | list e1 n1 r1 => cases h2 with
    | list e2 n2 r2 =>
      have l1 := r1.length
      have l2 := r2.length
      simp only [Array.length_toList] at l1 l2
      refine P.add_list e1 e2 (rp_new xi ?_) (by show _ ≤ 2 ^ 24; omega)
      rw [Array.toList_append]; exact r1.append r2
theorem rep_toList (items : Array Value) : ∀ k : Nat, (List.foldl (fun x1 x2 => x1 ++ x2) #[] (List.replicate k items)).toList = (List.replicate k items.toList).flatten := by
  have key : ∀ (k : Nat) (acc : Array Value), (List.foldl (fun x1 x2 => x1 ++ x2) acc (List.replicate k items)).toList = acc.toList ++ (List.replicate k items.toList).flatten := by
    intro k
    induction k with
    | zero => intro acc; simp
    | succ k ih => intro acc; rw [List.replicate_succ, List.foldl_cons, ih, Array.toList_append, List.replicate_succ, List.flatten_cons, List.append_assoc]
  intro k; rw [key k #[]]; simp
theorem RpL.rep {h : Heap} {vs : List Value} {xs : List PyData} (r : RpL X h vs xs) : ∀ k : Nat, RpL X h (List.replicate k vs).flatten (List.replicate k xs).flatten
  | 0 => by simpa using RpL.nil
  | k + 1 => by simpa [List.replicate_succ] using r.append (RpL.rep r k)
theorem op_rep {xs : List PyData} {n : Int} (h0 : 0 ≤ n) (h1 : n ≤ 1000) (h : xs.length ≤ 1000) (hne : xs ≠ []) : Op2 prog w A X (binaryOp .Mult) (.list xs) (.int n) (.list (List.replicate n.toNat xs).flatten) := by
  intro s E x y xi hn q1 q2
  obtain ⟨L, m, hn⟩ := hn
  cases q2 with
  | int _ t => cases q1 with
    | @list a vs n' _ e1 n1 r1 =>
      have l1 := r1.length
      simp only [Array.length_toList] at l1
      have hne' : ¬ (vs.isEmpty = true) := fun q => hne (by
        have : vs.size = 0 := by simpa [Array.isEmpty] using q
        exact List.length_eq_zero_iff.mp (by omega))
      have hq : vs.size * n.toNat ≤ 1000 * 1000 := Nat.mul_le_mul (by omega) (by omega)
      refine wpAny_binaryOp_repeat_ref (T := "list") (U := "int") (by decide) ⟨_, e1, rfl⟩ (fun s' => typeIs_int s' n t) noFill_list_mul F.fills_int_mul F.slot_int_rmul repeat_list F.slot_int_index.lookup
        (call_meets F.slot_int_rmul (typeIs_int s n t) F.entry_int_rmul (F.args_int_rmul_2 _ _) (int___rmul___int_list n t a vs n')
          ⟨e1, rfl, ⟨_, e1, rfl⟩, call_meets F.slot_list_mul ⟨_, e1, rfl⟩ F.entry_list_mul (F.args_list_mul_2 _ _)
            (AutoListH.list___mul___list_int_3 a vs n' n t (by simp [Builtin.List.listFitsIndex]; omega) (by omega) (by simp [Builtin.List.listTooLong, sizeLine]; omega)) ⟨e1, ?_⟩⟩)
      refine rp_new xi ?_
      rw [rep_toList, if_neg hne']
      exact r1.rep _
theorem op_eq {da db : PyData} (ha : SeqAt.shaped da = true) (hb : SeqAt.shaped db = true) (hu : A.units + 64 < cLine) : Op2 prog w A X (compareOp .Eq) da db (.bool (PyData.eqv da db)) := by
  intro s E x y _ _ h1 h2
  obtain ⟨_, r1⟩ := h1.reads (SeqAt.canLay_of_shaped ha)
  obtain ⟨_, r2⟩ := h2.reads (SeqAt.canLay_of_shaped hb)
  exact eq_dataH r1 r2 ha hb hu ⟨keeps_refl s, .bool _⟩
theorem op_ne {da db : PyData} (ha : SeqAt.shaped da = true) (hb : SeqAt.shaped db = true) (hu : A.units + 64 < cLine) : Op2 prog w A X (compareOp .NotEq) da db (.bool (!PyData.eqv da db)) := by
  intro s E x y _ _ h1 h2
  obtain ⟨_, r1⟩ := h1.reads (SeqAt.canLay_of_shaped ha)
  obtain ⟨_, r2⟩ := h2.reads (SeqAt.canLay_of_shaped hb)
  exact ne_dataH r1 r2 ha hb hu ⟨keeps_refl s, .bool _⟩
theorem op_in {d : PyData} {xs : List PyData} (ha : SeqAt.shaped d = true) (hb : SeqAt.shaped (.list xs) = true) (hu : A.units + 65 < cLine) : Op2 prog w A X (compareOp .In) d (.list xs) (.bool (xs.any fun y => PyData.eqv y d)) := by
  intro s E x y _ _ h1 h2
  obtain ⟨_, r1⟩ := h1.reads (SeqAt.canLay_of_shaped ha)
  obtain ⟨_, r2⟩ := h2.reads (SeqAt.canLay_of_shaped hb)
  exact SeqAt.in_list_reads r2 r1 (SeqAt.canLay_of_shaped hb) (SeqAt.canLay_of_shaped ha) (room_in_shaped ha hu) ⟨keeps_refl s, .bool _⟩
theorem op_in_str {x y : Str} : Op2 prog w A X (compareOp .In) (.str y) (.str x) (.bool (!(Builtin.Str.occurrences x y 0 x.length 1).isEmpty)) := by
  intro s E a b _ _ h1 h2; cases h1; cases h2; exact in_str ⟨keeps_refl s, .bool _⟩
theorem op_gt_str {x y : Str} : Op2 prog w A X (compareOp .Gt) (.str x) (.str y) (.bool (y.cps.toList < x.cps.toList)) := by
  intro s E a b _ _ h1 h2; cases h1; cases h2; exact P.gt_str ⟨keeps_refl s, .bool _⟩
theorem op_lt_str {x y : Str} : Op2 prog w A X (compareOp .Lt) (.str x) (.str y) (.bool (x.cps.toList < y.cps.toList)) := by
  intro s E a b _ _ h1 h2; cases h1; cases h2; exact lt_str ⟨keeps_refl s, .bool _⟩
theorem op_eq_int {a b : Int} : Op2 prog w A X (compareOp .Eq) (.int a) (.int b) (.bool (a == b)) := by
  intro s E x y _ _ h1 h2; cases h1; cases h2; exact eq_int ⟨keeps_refl s, .bool _⟩
/-- arguments, items -/
noncomputable def EVL (prog : Program) (w : World) (hT : Heap) (A : Around) (X : Addr → Prop) (env : Env) (bs : List (Str × PyData)) (es : List PySem.Expr) (ds : List PyData) : Prop :=
  ∀ (pos : Pos) (s : Shared) (E : Value → Shared → Prop), Ok hT X env bs s.heap → wpAny (model prog w) A (spliced (backTo pos (starEach es env))) (fun vs s' => Keeps s s' ∧ RpL X s'.heap vs ds) E s
theorem evl_nil : EVL prog w hT A X env bs [] [] := fun _ s _ _ => spliced_none ⟨keeps_refl s, .nil⟩
theorem evl_cons {e : PySem.Expr} {es : List PySem.Expr} {d : PyData} {ds : List PyData} (h : EV prog w hT A X env bs e d) (r : EVL prog w hT A X env bs es ds)
    (he : starEach (e :: es) env = (false, eval e env) :: starEach es env := by rfl) : EVL prog w hT A X env bs (e :: es) (d :: ds) := by
  intro pos s E ok
  refine spliced_more (wpAny_mono (h s E ok) ?_ fun _ _ e => e) he
  rintro v s₁ ⟨k1, r1⟩
  refine wpAny_mono (r pos s₁ E (ok.keeps k1)) ?_ fun _ _ e => e
  rintro vs s₂ ⟨k2, r2⟩
  exact ⟨keeps_trans k1 k2, .cons (r1.grow (keeps_grow k2)) r2⟩
theorem ev_list {es : List PySem.Expr} {pos : Pos} {ds : List PyData} (h : EVL prog w hT A X env bs es ds) (hl : ds.length ≤ 1000000 := by simp) : EV prog w hT A X env bs (.List es pos) (.list ds) := by
  intro s E ok
  refine List_ (wpAny_mono (h pos s E ok) ?_ fun _ _ e => e)
  rintro vs s₁ ⟨k1, r1⟩
  have l1 := r1.length
  refine wpAny_newObj_type ?_ (by show vs.toArray.size ≤ 2 ^ 24; simp; omega)
  have := rp_new (vs := vs.toArray) (ok.keeps k1).xi r1
  exact ⟨keeps_trans k1 this.1, this.2⟩
theorem ev_tuple {es : List PySem.Expr} {k : Nat} {pos : Pos} {ds : List PyData} (h : EVL prog w hT A X env bs es ds) (hl : ds.length ≤ 1000000 := by simp) : EV prog w hT A X env bs (.Tuple es k pos) (.tuple ds) := by
  intro s E ok
  refine Tuple_ (wpAny_mono (h pos s E ok) ?_ fun _ _ e => e)
  rintro vs s₁ ⟨k1, r1⟩
  have l1 := r1.length
  refine wpAny_newObj_type ?_ (by show vs.toArray.size ≤ 2 ^ 24; simp; omega)
  exact ⟨keeps_trans k1 ⟨_, s₁.toks, rfl, grow_push _ _⟩, .tuple (n := 0) (Heap.get?_push_size _ rfl) (ok.keeps k1).xi.fresh (r1.grow (grow_push _ _))⟩
theorem ev_if {t b o : PySem.Expr} {pos : Pos} {c : Bool} {d d' : PyData} (ht : TR prog w hT A X env bs t c) (hb : c = true → EV prog w hT A X env bs b d) (ho : c = false → EV prog w hT A X env bs o d') :
    EV prog w hT A X env bs (.IfExp t b o pos) (if c then d else d') := by
  intro s E ok
  refine wpAny_IfExp (wpAny_mono (ht s E ok) ?_ fun _ _ e => e)
  rintro r s₁ ⟨rfl, k1⟩
  cases r with
  | true => refine wpAny_mono (hb rfl s₁ E (ok.keeps k1)) ?_ fun _ _ e => e; rintro v s₂ ⟨k2, r2⟩; exact ⟨keeps_trans k1 k2, r2⟩
  | false => refine wpAny_mono (ho rfl s₁ E (ok.keeps k1)) ?_ fun _ _ e => e; rintro v s₂ ⟨k2, r2⟩; exact ⟨keeps_trans k1 k2, r2⟩
theorem tr_and {x y : PySem.Expr} {pos : Pos} {a b : Bool} (hx : TR prog w hT A X env bs x a) (hy : a = true → TR prog w hT A X env bs y b) : TR prog w hT A X env bs (.BoolOp .And [x, y] pos) (a && b) := by
  intro s E ok
  refine isTrue_and (wpAny_mono (hx s E ok) ?_ fun _ _ e => e)
  rintro r s₁ ⟨rfl, k1⟩
  cases r with
  | false => exact ⟨rfl, k1⟩
  | true =>
    refine isTrue_and (wpAny_mono (hy rfl s₁ E (ok.keeps k1)) ?_ fun _ _ e => e)
    rintro r s₂ ⟨rfl, k2⟩
    cases r with
    | false => exact ⟨rfl, keeps_trans k1 k2⟩
    | true => exact isTrue_and_nil ⟨rfl, keeps_trans k1 k2⟩
/-- a truth by the value -/
theorem tr_ev {e : PySem.Expr} {b : Bool} (h : EV prog w hT A X env bs e (.bool b)) (he : ∀ whole, isTrue e env whole = (do let v ← whole; standAt e.pos; holding [v] (truthy v)) := by intro _; rfl) : TR prog w hT A X env bs e b := by
  intro s E ok
  refine isTrue_plain (wpAny_mono (h s E ok) ?_ fun _ _ e => e) (he _)
  rintro v s₁ ⟨k1, r1⟩
  cases r1
  exact wpAny_truthy_bool ⟨rfl, k1⟩
end Mine
end
section
open PySem PySem.W PyProof.Rows
namespace Mine
variable {prog : Program} {w : World} {hT : Heap} {A : Around} {X : Addr → Prop} {env : Env} {bs : List (Str × PyData)}
theorem subscripted_wp {slice : PySem.Expr} {o i : Value} {s : Shared} {E : Value → Shared → Prop} {Q : Value → Shared → Prop} (h : wpAny (model prog w) A (getItem o i) Q E s) :
    wpAny (model prog w) A (subscripted slice false o i) Q E s := by
  unfold subscripted
  split
  · exact wpAny_operating h
  · rename_i e; cases e
  · exact wpAny_operating h
theorem sub_any {value slice : PySem.Expr} {pos : Pos} {s : Shared} {E : Value → Shared → Prop} {Q : Value → Shared → Prop}
    (h : wpAny (model prog w) A (eval value env) (fun o s₁ => wpAny (model prog w) A (eval slice env) (fun i s₂ =>
      (∃ T id, s₂.TypeIs o T ∧ typeLookup (.type T) "__getitem__" = pure (some (.builtin id))) ∧ wpAny (model prog w) A (getItem o i) Q E s₂) E s₁) E s) :
    wpAny (model prog w) A (eval (.Subscript value slice pos) env) Q E s := by
  rw [eval_Subscript]
  refine wpAny_bind (wpAny_mono h (fun o s₁ h₁ => wpAny_bind (wpAny_holding (wpAny_mono h₁ (fun i s₂ h₂ => wpAny_bind (wpAny_standAt ?_)) fun _ _ x => x))) fun _ _ x => x)
  obtain ⟨⟨T, id, hT', hl⟩, hg⟩ := h₂
  have fin : wpAny (model prog w) A (subscripted slice false o i) (fun r s₃ => wpAny (model prog w) A (letTemporaryGo value o r >>= fun _ => pure r) Q E s₃) E s₂ :=
    subscripted_wp (wpAny_mono hg (fun r s₃ h₃ => wpAny_bind (wpAny_letTemporaryGo (wpAny_pure h₃))) fun _ _ x => x)
  refine wpAny_bind ?_
  rw [getitemInPython_of_ne hT'.not_modules]
  refine wpAny_bind (wpAny_specialOf hT' hl ?_)
  first
    | exact wpAny_pure (wpAny_bind fin)
    | exact wpAny_bind (wpAny_pure (wpAny_bind fin))
    | exact wpAny_bind fin
/-- an item of a list -/
theorem ev_item {value slice : PySem.Expr} {pos : Pos} {xs : List PyData} {k : Int} {d : PyData} (hv : EV prog w hT A X env bs value (.list xs)) (hi : EV prog w hT A X env bs slice (.int k))
    (h0 : 0 ≤ k) (h1 : k < 2 ^ 63) (hx : xs[k.toNat]? = some d) : EV prog w hT A X env bs (.Subscript value slice pos) d := by
  intro s E ok
  refine sub_any (wpAny_mono (hv s E ok) ?_ fun _ _ e => e)
  rintro o s₁ ⟨k1, r1⟩
  refine wpAny_mono (hi s₁ E (ok.keeps k1)) ?_ fun _ _ e => e
  rintro i s₂ ⟨k2, r2⟩
  cases r2 with
  | int _ t =>
    have r1 := r1.grow (keeps_grow k2)
    cases r1 with
    | list e1 n1 r1 =>
      obtain ⟨v, hv, rv⟩ := r1.get hx
      refine ⟨⟨"list", _, ⟨_, e1, rfl⟩, slot_list_getitem.lookup⟩, wpAny_getItem_list ⟨_, e1, rfl, _, rfl⟩ h0 h1 (by simpa using hv) ⟨keeps_trans k1 k2, rv⟩⟩
theorem ev_sign {value slice : PySem.Expr} {pos : Pos} {x : Str} {k : Int} {c : Nat} (hv : EV prog w hT A X env bs value (.str x)) (hi : EV prog w hT A X env bs slice (.int k))
    (hr : (decide (k < -(2 ^ 63 : Int)) || decide (k ≥ 2 ^ 63)) = false) (hc : (seqIndex? k x.length).bind (x.cps[·]?) = some c) : EV prog w hT A X env bs (.Subscript value slice pos) (.str ⟨#[c]⟩) := by
  intro s E ok
  refine sub_any (wpAny_mono (hv s E ok) ?_ fun _ _ e => e)
  rintro o s₁ ⟨k1, r1⟩
  refine wpAny_mono (hi s₁ E (ok.keeps k1)) ?_ fun _ _ e => e
  rintro i s₂ ⟨k2, r2⟩
  cases r2 with
  | int _ t => cases r1 with
    | str _ t' => exact ⟨⟨"str", _, typeIs_str _ _ _, F.slot_str_getitem.lookup⟩, getItem_str hr hc ⟨keeps_trans k1 (keeps_trans k2 (keeps_tok _ _)), .str _ _⟩⟩
/-- a slice's part -/
noncomputable def EVP (prog : Program) (w : World) (hT : Heap) (A : Around) (X : Addr → Prop) (env : Env) (bs : List (Str × PyData)) (e : Option PySem.Expr) (k : Option Int) : Prop :=
  ∀ (s : Shared) (E : Value → Shared → Prop), Ok hT X env bs s.heap → wpAny (model prog w) A (evalPart e env) (fun v s' => Keeps s s' ∧ IsPart v k) E s
theorem evp_none : EVP prog w hT A X env bs none none := fun s _ _ => by rw [evalPart_none]; exact wpAny_pure ⟨keeps_refl s, .none⟩
theorem evp_some {e : PySem.Expr} {k : Int} (h : EV prog w hT A X env bs e (.int k)) : EVP prog w hT A X env bs (some e) (some k) := fun s E ok => by
  rw [evalPart_some]
  refine wpAny_mono (h s E ok) ?_ fun _ _ e => e
  rintro v s₁ ⟨k1, r1⟩
  cases r1
  exact ⟨k1, .int _ _⟩
/-- slicePick on data -/
noncomputable def pick (xs : List PyData) (lo hi st : Option Int) : List PyData :=
  (sliceRange (sliceBounds lo hi st xs.length).1 (sliceBounds lo hi st xs.length).2.1 (sliceBounds lo hi st xs.length).2.2).filterMap (xs[·]?)
theorem RpL.picks {h : Heap} {vs : List Value} {xs : List PyData} (r : RpL X h vs xs) : ∀ l : List Nat, RpL X h (l.filterMap (vs[·]?)) (l.filterMap (xs[·]?))
  | [] => .nil
  | i :: l => by
    have hl := r.length
    have ih := RpL.picks r l
    by_cases hi : i < xs.length
    · obtain ⟨v, hv, rv⟩ := r.get (i := i) (d := xs[i]) (by simp)
      rw [List.filterMap_cons_some hv, List.filterMap_cons_some (b := xs[i]) (by simp)]
      exact .cons rv ih
    · rw [List.filterMap_cons_none (by rw [List.getElem?_eq_none]; omega), List.filterMap_cons_none (by rw [List.getElem?_eq_none]; omega)]
      exact ih
theorem RpL.pick {h : Heap} {vs : Array Value} {xs : List PyData} (r : RpL X h vs.toList xs) (lo hi st : Option Int) : RpL X h (slicePick vs lo hi st).toList (pick xs lo hi st) := by
  have hl := r.length
  simp only [Array.length_toList] at hl
  unfold slicePick Mine.pick
  rw [hl]
  have := r.picks (sliceRange (sliceBounds lo hi st xs.length).1 (sliceBounds lo hi st xs.length).2.1 (sliceBounds lo hi st xs.length).2.2)
  simpa using this
theorem ev_slice {value : PySem.Expr} {lo hi st : Option PySem.Expr} {p pos : Pos} {xs : List PyData} {a b c : Option Int} (hv : EV prog w hT A X env bs value (.list xs))
    (ha : EVP prog w hT A X env bs lo a) (hb : EVP prog w hT A X env bs hi b) (hc : EVP prog w hT A X env bs st c) (h0 : c ≠ some 0) (hl : xs.length ≤ 1000000) :
    EV prog w hT A X env bs (.Subscript value (.Slice lo hi st p) pos) (.list (pick xs a b c)) := by
  intro s E ok
  refine sub_any (wpAny_mono (hv s E ok) ?_ fun _ _ e => e)
  rintro o s₁ ⟨k1, r1⟩
  have ok1 := ok.keeps k1
  refine wpAny_Slice (wpAny_mono (ha s₁ E ok1) ?_ fun _ _ e => e)
  rintro va s₂ ⟨k2, p2⟩
  have ok2 := ok1.keeps k2
  refine wpAny_mono (hb s₂ E ok2) ?_ fun _ _ e => e
  rintro vb s₃ ⟨k3, p3⟩
  have ok3 := ok2.keeps k3
  refine wpAny_mono (hc s₃ E ok3) ?_ fun _ _ e => e
  rintro vc s₄ ⟨k4, p4⟩
  have ok4 := ok3.keeps k4
  have k5 : Keeps s₄ { s₄ with heap := s₄.heap.push { cls := .type "slice", data := .fields #[va, vb, vc] } } := ⟨_, s₄.toks, rfl, grow_push _ _⟩
  have ok5 := ok4.keeps k5
  have r5 := r1.grow (keeps_grow (keeps_trans k2 (keeps_trans k3 (keeps_trans k4 k5))))
  cases r5 with
  | list e1 n1 r1 =>
    have l1 := r1.length
    simp only [Array.length_toList] at l1
    refine ⟨⟨"list", _, ⟨_, e1, rfl⟩, slot_list_getitem.lookup⟩, wpAny_getItem_list_slice ⟨_, e1, rfl, _, rfl⟩ (Heap.IsSliceOf.new _ _ _ _) p2 p3 p4 h0 ?_ (by show _ ≤ 2 ^ 24; omega)⟩
    have g := rp_new ok5.xi (r1.pick a b c)
    exact ⟨keeps_trans k1 (keeps_trans k2 (keeps_trans k3 (keeps_trans k4 (keeps_trans k5 g.1)))), g.2⟩
/-- a text from its second sign on -/
theorem ev_slice_str {value : PySem.Expr} {lo : PySem.Expr} {p pos : Pos} {x y : Str} {a : Int} (hv : EV prog w hT A X env bs value (.str x))
    (ha : EV prog w hT A X env bs lo (.int a)) (hy : ∀ t u, sliceMade x t (some (a, u)) none none = .str y) (hsz : y.length ≤ 1000000) :
    EV prog w hT A X env bs (.Subscript value (.Slice (some lo) none none p) pos) (.str y) := by
  intro s E ok
  refine sub_any (wpAny_mono (hv s E ok) ?_ fun _ _ e => e)
  rintro o s₁ ⟨k1, r1⟩
  cases r1 with
  | str _ t =>
  have ok1 := ok.keeps k1
  refine wpAny_Slice ?_
  rw [evalPart_some]
  refine wpAny_mono (ha s₁ E ok1) ?_ fun _ _ e => e
  rintro va s₂ ⟨k2, p2⟩
  cases p2 with
  | int _ u =>
  rw [evalPart_none]
  refine wpAny_pure (wpAny_pure ?_)
  have k3 : Keeps s₂ { s₂ with heap := s₂.heap.push { cls := .type "slice", data := .fields #[.int a u, .none, .none] } } := ⟨_, s₂.toks, rfl, grow_push _ _⟩
  refine ⟨⟨"str", _, typeIs_str _ _ _, F.slot_str_getitem.lookup⟩, wpAny_getItem_str_slice (l := some (a, u)) (u := none) (st := none) ⟨_, Heap.get?_push_size _ rfl, rfl, rfl⟩ rfl ?_⟩
  rw [hy]
  exact ⟨(by show _ ≤ 2 ^ 24; omega), keeps_trans k1 (keeps_trans k2 (keeps_trans k3 (keeps_tok _ _))), .str _ _⟩
end Mine
end
section
open PySem PySem.W PyProof.Rows
namespace Mine
variable {prog : Program} {w : World} {hT : Heap} {A : Around} {X : Addr → Prop} {env : Env} {bs : List (Str × PyData)}
/-- all but the private objects are kept -/
noncomputable def Mv (Pv : Addr → Prop) (s s' : Shared) : Prop := ∃ h' tk, s' = { s with heap := h', toks := tk } ∧ ∀ b o, ¬ Pv b → s.heap.get? b = some o → h'.get? b = some o
theorem Mv.of {Pv : Addr → Prop} {s s' : Shared} (k : Keeps s s') : Mv Pv s s' := let ⟨h, t, e, g⟩ := k; ⟨h, t, e, fun b o _ q => g b o q⟩
theorem Mv.trans {Pv : Addr → Prop} {a b c : Shared} (x : Mv Pv a b) (y : Mv Pv b c) : Mv Pv a c := by
  obtain ⟨h, t, rfl, k⟩ := x
  obtain ⟨h', t', rfl, k'⟩ := y
  exact ⟨h', t', rfl, fun b o n e => k' b o n (k b o n e)⟩
theorem Mv.get {Pv : Addr → Prop} {s s' : Shared} (x : Mv Pv s s') : ∀ b o, ¬ Pv b → s.heap.get? b = some o → s'.heap.get? b = some o := by
  obtain ⟨h, t, rfl, k⟩ := x; exact k
theorem Mv.keeps {Pv : Addr → Prop} {s₀ s s' : Shared} (k : Keeps s₀ s) (x : Mv Pv s s') (hp : ∀ a, Pv a → s₀.heap.get? a = none) : Keeps s₀ s' := by
  obtain ⟨h, t, rfl, g⟩ := k
  obtain ⟨h', t', rfl, g'⟩ := x
  exact ⟨h', t', rfl, fun b o e => g' b o (fun p => by rw [hp b p] at e; cases e) (g b o e)⟩
theorem Mv.more {Pv Pw : Addr → Prop} {s s' : Shared} (x : Mv Pv s s') (k : ∀ a, Pv a → Pw a) : Mv Pw s s' := by
  obtain ⟨h, t, rfl, g⟩ := x
  exact ⟨h, t, rfl, fun b o n e => g b o (fun p => n (k b p)) e⟩
/-- seq objects outside X are kept -/
noncomputable abbrev Calm (X : Addr → Prop) (h h' : Heap) : Prop := ∀ a o vs n, ¬ X a → o.data = .seq vs n → h.get? a = some o → h'.get? a = some o
theorem Rp.calm {h h' : Heap} {v : Value} {d : PyData} (r : Rp X h v d) (k : Calm X h h') : Rp X h' v d := r.move fun a o vs n x c e => ⟨k a o vs n x c e, x⟩
theorem RpL.calm {h h' : Heap} {v : List Value} {d : List PyData} (r : RpL X h v d) (k : Calm X h h') : RpL X h' v d := r.move fun a o vs n x c e => ⟨k a o vs n x c e, x⟩
theorem calm_grow {h h' : Heap} (g : Grow h h') : Calm X h h' := fun a o _ _ _ _ e => g a o e
theorem calm_ns {h h' : Heap} {L : Addr} {m : Str → Option Value} (hn : h.Ns L m) (hs : Heap.SameBut L h h') : Calm X h h' := fun a o vs n x c e => by
  refine (hs.2 a fun q => ?_).trans e
  subst q
  obtain ⟨o', es, ep, ho, hd, _⟩ := hn
  rw [ho] at e; cases e; rw [hd] at c; cases c
theorem calm_cell {h h' : Heap} {L : Addr} {m : Option Value} (hn : h.IsCell L m) (hs : Heap.SameBut L h h') : Calm X h h' := fun a o vs n x c e => by
  refine (hs.2 a fun q => ?_).trans e
  subst q
  obtain ⟨o', ho, hd⟩ := hn
  rw [ho] at e; cases e; rw [hd] at c; cases c
/-- one object that is no sequence is turned -/
theorem calm_fields {h h' : Heap} {I : Addr} {o₁ : Obj} {fs : Array Value} (hI : h.get? I = some o₁) (hd : o₁.data = .fields fs) (k : ∀ b o, b ≠ I → h.get? b = some o → h'.get? b = some o) : Calm X h h' := fun a o vs n x c e => by
  refine k a o (fun q => ?_) e
  subst q
  rw [hI] at e; cases e; rw [hd] at c; cases c
/-- where a name may be stored -/
noncomputable def StoreAt (Pv : Addr → Prop) (env : Env) (x : Str) : Prop :=
  (env.kindOf x = some .local ∧ Pv env.locals) ∨ (env.kindOf x = some .cell ∧ ∃ c, env.cells.lookup x = some c ∧ Pv c ∧ ∀ y c', env.cells.lookup y = some c' → y ≠ x → c' ≠ c)
theorem ns_ne_cell {h : Heap} {L c : Addr} {m : Str → Option Value} {v : Option Value} (hn : h.Ns L m) (hc : h.IsCell c v) : L ≠ c := fun e => by
  subst e
  obtain ⟨o, es, ep, ho, hd, _⟩ := hn
  obtain ⟨o', ho', hd'⟩ := hc
  rw [ho] at ho'; cases ho'; rw [hd] at hd'; cases hd'
theorem sc_store {Pv : Addr → Prop} {x : Str} {v : Value} {d : PyData} {s : Shared} {E : Value → Shared → Prop} {M : Model} {Q : Unit → Shared → Prop} (hk : env.scope.kind = .function) (hsc : Sc X env bs s.heap) (hv : Rp X s.heap v d)
    (hs : StoreAt Pv env x) (h : ∀ s', Sc X env ((x, d) :: bs) s'.heap → Mv Pv s s' → Calm X s.heap s'.heap → Q () s') : wpAny M A (storeName env x v) Q E s := by
  obtain ⟨m, cm, hn, hc, hb⟩ := hsc
  have look : ∀ y d', ((x, d) :: bs).lookup y = some d' → (y = x ∧ d' = d) ∨ (y ≠ x ∧ bs.lookup y = some d') := fun y d' e => by
    rw [List.lookup_cons] at e
    by_cases q : y = x
    · subst q; simp at e; exact .inl ⟨rfl, e.symm⟩
    · rw [beq_eq_false_iff_ne.mpr q] at e; exact .inr ⟨q, e⟩
  rcases hs with ⟨hl, hp⟩ | ⟨hl, c, hlc, hp, hap⟩
  · refine wpAny_storeName_local hl hn (fun h' hn' hs' => ?_) (by rw [hk]; rfl)
    have calm : Calm X s.heap h' := calm_ns hn hs'
    refine h _ ⟨_, cm, hn', fun n c e => (hc n c e).sameBut hs' (ns_ne_cell hn (hc n c e)).symm, fun y d' e => ?_⟩ ⟨h', _, rfl, fun b o nb e => hs'.extBut b o (fun q => nb (q ▸ hp)) e⟩ calm
    rcases look y d' e with ⟨rfl, rfl⟩ | ⟨hne, e'⟩
    · exact ⟨v, hv.calm calm, .inl ⟨hl, by simp⟩⟩
    · obtain ⟨u, ru, au⟩ := hb y d' e'
      refine ⟨u, ru.calm calm, ?_⟩
      rcases au with ⟨a1, a2⟩ | a
      · exact .inl ⟨a1, by simp [hne, a2]⟩
      · exact .inr a
  · refine wpAny_storeName_cell hk hl hlc (hc x c hlc) (fun h' hc' hs' => ?_)
    have calm : Calm X s.heap h' := calm_cell (hc x c hlc) hs'
    refine h _ ⟨m, fun y => if y = x then some v else cm y, hn.sameBut hs' (ns_ne_cell hn (hc x c hlc)), fun n c' e => ?_, fun y d' e => ?_⟩ ⟨h', s.toks, rfl, fun b o nb e => hs'.extBut b o (fun q => nb (q ▸ hp)) e⟩ calm
    · by_cases q : n = x
      · subst q; rw [hlc] at e; cases e; simpa using hc'
      · simp only [if_neg q]; exact (hc n c' e).sameBut hs' (hap n c' e q)
    · rcases look y d' e with ⟨rfl, rfl⟩ | ⟨hne, e'⟩
      · exact ⟨v, hv.calm calm, .inr ⟨.inl hl, ⟨c, hlc⟩, by simp⟩⟩
      · obtain ⟨u, ru, au⟩ := hb y d' e'
        refine ⟨u, ru.calm calm, ?_⟩
        rcases au with a | ⟨a1, a2, a3⟩
        · exact .inl a
        · exact .inr ⟨a1, a2, by simp [hne, a3]⟩
noncomputable def tbNames : List Str → List PyData → List (Str × PyData) → List (Str × PyData)
  | x :: xs, d :: ds, acc => tbNames xs ds ((x, d) :: acc)
  | _, _, acc => acc
theorem assign_name {Pv : Addr → Prop} {x : Str} {pos : Pos} {v : Value} {d : PyData} {s : Shared} {E : Value → Shared → Prop} {M : Model} {Q : Unit → Shared → Prop} (hk : env.scope.kind = .function) (hsc : Sc X env bs s.heap) (hv : Rp X s.heap v d)
    (hs : StoreAt Pv env x) (h : ∀ s', Sc X env ((x, d) :: bs) s'.heap → Mv Pv s s' → Calm X s.heap s'.heap → Q () s') : wpAny M A (assign (.Name x pos) env v) Q E s := wpAny_assign_Name (sc_store hk hsc hv hs h)
/-- several names in their order -/
theorem assign_order {Pv : Addr → Prop} {E : Value → Shared → Prop} (hk : env.scope.kind = .function) (xs : List (Str × Pos)) : ∀ (vs : List Value) (ds : List PyData) (bs : List (Str × PyData)) (s : Shared) (Q : Unit → Shared → Prop),
    xs.length = vs.length → Sc X env bs s.heap → RpL X s.heap vs ds → (∀ x ∈ xs, StoreAt Pv env x.1) →
    (∀ s', Sc X env (tbNames (xs.map (·.1)) ds bs) s'.heap → Mv Pv s s' → Calm X s.heap s'.heap → Q () s') →
    wpAny (model prog w) A (assignInOrder (xs.map fun x => assign (.Name x.1 x.2) env) vs) Q E s := by
  induction xs with
  | nil =>
    intro vs ds bs s Q hl hsc hr _ h
    cases vs with
    | cons => cases hl
    | nil => cases hr; exact wpAny_pure (h s hsc ⟨s.heap, s.toks, rfl, fun _ _ _ e => e⟩ fun _ _ _ _ _ _ e => e)
  | cons x xs ih =>
    intro vs ds bs s Q hl hsc hr hst h
    cases vs with
    | nil => cases hl
    | cons v vs => cases hr with
      | cons r rs =>
        rw [List.map_cons]
        unfold assignInOrder
        refine wpAny_bind (wpAny_holding (assign_name (Pv := Pv) hk hsc r (hst _ (.head _)) fun s₁ sc₁ mv₁ c₁ => ?_))
        exact ih vs _ (_ :: bs) s₁ Q (by simpa using hl) sc₁ (rs.calm c₁) (fun y hy => hst y (.tail _ hy)) fun s₂ sc₂ mv₂ c₂ => h s₂ sc₂ (mv₁.trans mv₂) fun a o vs n x q e => c₂ a o vs n x q (c₁ a o vs n x q e)
theorem grow_ext {h h' : Heap} (e : Heap.ExtBut h.objs.size h h') : Grow h h' := fun b o q => e b o (Nat.ne_of_lt (Heap.lt_size q)) q
theorem assign_tuple {Pv : Addr → Prop} {elts : List PySem.Expr} {k : Nat} {pos : Pos} (xs : List (Str × Pos)) {v : Value} {ds : List PyData} {s : Shared} {E : Value → Shared → Prop} {Q : Unit → Shared → Prop} (hh : A.handled = none)
    (hk : env.scope.kind = .function) (hsc : Sc X env bs s.heap) (hv : Rp X s.heap v (.tuple ds)) (hl : xs.length = ds.length)
    (he : (assignEach elts env).map (·.2) = xs.map fun x => assign (.Name x.1 x.2) env) (hst : (assignEach elts env).findIdx? (·.1) = none)
    (hs : ∀ x ∈ xs, StoreAt Pv env x.1)
    (h : ∀ s', Sc X env (tbNames (xs.map (·.1)) ds bs) s'.heap → Mv Pv s s' → Calm X s.heap s'.heap → Q () s') : wpAny (model prog w) A (assign (.Tuple elts k pos) env v) Q E s := by
  cases hv with
  | tuple e1 n1 r1 =>
    have l1 := r1.length
    simp only [Array.length_toList] at l1
    have l2 : (assignEach elts env).length = xs.length := by
      have := congrArg List.length he
      simpa using this
    refine wpAny_assign_Tuple hh ⟨_, e1, rfl, _, rfl⟩ (by omega) hst fun h' ext => ?_
    rw [he]
    have g := grow_ext ext
    refine assign_order hk xs _ ds bs { s with heap := h' } Q (by simp; omega) (hsc.grow g) (r1.grow g) hs fun s' sc mv c => h s' sc ((Mv.of ⟨h', s.toks, rfl, g⟩).trans mv) fun a o vs n x q e => c a o vs n x q (g a o e)
end Mine
end
section
open PySem PySem.W PyProof.Rows
namespace Mine
variable {prog : Program} {w : World} {hT : Heap} {A : Around} {X : Addr → Prop} {env : Env} {bs : List (Str × PyData)}
/-- an iterator over data -/
structure Wk (prog : Program) (w : World) (A : Around) (X : Addr → Prop) (I : Addr) (ds : List PyData) (St : Nat → Heap → Prop) : Prop where
  frame : ∀ i h h', St i h → Calm X h h' → (∀ o, h.get? I = some o → h'.get? I = some o) → St i h'
  item : ∀ i (s : Shared) (Q : Option Value → Shared → Prop) (E : Value → Shared → Prop) d, ds[i]? = some d → St i s.heap →
    (∀ v h' tk, Rp X h' v d → St (i + 1) h' → (∀ b o, b ≠ I → s.heap.get? b = some o → h'.get? b = some o) → Q (some v) { s with heap := h', toks := tk }) → wpAny (model prog w) A (pyNext (.ref I)) Q E s
  done : ∀ (s : Shared) (Q : Option Value → Shared → Prop) (E : Value → Shared → Prop), St ds.length s.heap →
    (∀ h' tk, (∀ b o, b ≠ I → s.heap.get? b = some o → h'.get? b = some o) → Q none { s with heap := h', toks := tk }) → wpAny (model prog w) A (pyNext (.ref I)) Q E s
  self : ∀ i (s : Shared) (Q : Value → Shared → Prop) (E : Value → Shared → Prop), St i s.heap → Q (.ref I) s → wpAny (model prog w) A (pyIter (.ref I)) Q E s
  fields : ∀ i h, St i h → ∃ o fs, h.get? I = some o ∧ o.data = .fields fs
  owns : ∀ i (s : Shared) (t : PySem.Expr) (v : Value) (Q : Unit → Shared → Prop) (E : Value → Shared → Prop), St i s.heap → Q () s → wpAny (model prog w) A (letOwnedTupleGo t (.ref I) v) Q E s
noncomputable def ownNames : List String := ["enumerate", "zip", "dict_itemiterator", "dict_reverseitemiterator", "odict_iterator", "itertools.zip_longest", "itertools.pairwise"]
theorem owns_plain {I : Addr} {s : Shared} {t : PySem.Expr} {v : Value} {Q : Unit → Shared → Prop} {E : Value → Shared → Prop} {o : Obj} {n : String} {fs : Array Value} (ho : s.heap.get? I = some o) (hc : o.cls = .type n) (hd : o.data = .fields fs)
    (hn : ownNames.contains n = false) (h : Q () s) : wpAny (model prog w) A (letOwnedTupleGo t (.ref I) v) Q E s := by
  have main : wpAny (model prog w) A (do
    let (.ref r, .ref a) := ((.ref I : Value), v) | return
    let o ← load r
    match o.cls, o.data with
    | .type n, .fields vs =>
      if ["enumerate", "zip", "dict_itemiterator", "dict_reverseitemiterator", "odict_iterator", "itertools.zip_longest", "itertools.pairwise"].contains n && vs[0]? == some (rawInt a) then
        rule "for.unpacks-the-owned-tuple"
        updateField r 0 .none
    | _, _ => pure ()) Q E s := by
    cases v with
    | ref a =>
      refine wpAny_bind (wpAny_load ho ?_)
      rw [hc, hd]
      have e : (["enumerate", "zip", "dict_itemiterator", "dict_reverseitemiterator", "odict_iterator", "itertools.zip_longest", "itertools.pairwise"].contains n) = false := hn
      simp only [e, Bool.false_and, Bool.false_eq_true, if_false]
      exact wpAny_pure h
    | _ => exact wpAny_pure h
  unfold letOwnedTupleGo
  split
  · exact main
  · exact main
  · exact wpAny_pure h
/-- an iterator over data whatever is private -/
structure WkX (prog : Program) (w : World) (A : Around) (I : Addr) (ds : List PyData) (St : (Addr → Prop) → Nat → Heap → Prop) : Prop where
  wk : ∀ X, Wk prog w A X I ds (St X)
  more : ∀ X Y i h, St X i h → (∀ a, Y a → X a ∨ h.get? a = none) → St Y i h
/-- by the library's walks: a sequence's iterator -/
theorem wkx_seq {I ax : Addr} {items : Array Value} {ds : List PyData} {J : Nat → Heap → Prop} (hne : ax ≠ I)
    (hW : Walks prog w A I [I, ax] [I] items.size (fun i v => items[i]? = some v) J)
    (hJ : ∀ i h, J i h → ∃ o fs n, h.get? I = some o ∧ o.data = .fields fs ∧ o.cls = .type n ∧ ownNames.contains n = false) (hJa : ∀ i h, J i h → ∃ o n, h.get? ax = some o ∧ o.data = .seq items n) (hlen : items.size = ds.length) :
    WkX prog w A I ds (fun X i h => J i h ∧ RpL X h items.toList ds ∧ ¬ X ax) where
  wk := fun X => {
    frame := fun i h h' st c k => by
      obtain ⟨j, r, n⟩ := st
      refine ⟨hW.frame i h h' j fun b hb o e => ?_, r.calm c, n⟩
      simp at hb
      rcases hb with rfl | rfl
      · exact k o e
      · obtain ⟨o', n', ho, hd⟩ := hJa i h j
        rw [ho] at e; cases e
        exact c _ _ _ _ n hd ho
    item := fun i s Q E d hd st hQ => by
      obtain ⟨j, r, n⟩ := st
      have hi : i < items.size := by rw [hlen]; exact (List.getElem?_eq_some_iff.mp hd).1
      refine hW.item i s Q E hi j fun v h' tk hv j' k => ?_
      obtain ⟨v', hv', rv⟩ := r.get hd
      obtain ⟨o₁, fs, _, hI, hf, _⟩ := hJ i _ j
      have k' : ∀ b o, b ≠ I → s.heap.get? b = some o → h'.get? b = some o := fun b o nb e => k b o (by simpa using nb) e
      have c : Calm X s.heap h' := calm_fields hI hf k'
      rw [← Array.getElem?_toList] at hv
      rw [hv] at hv'; cases hv'
      exact hQ v h' tk (rv.calm c) ⟨j', r.calm c, n⟩ k'
    done := fun s Q E st hQ => hW.done s Q E (hlen ▸ st.1) fun h' tk k => hQ h' tk fun b o nb e => k b o (by simpa using nb) e
    self := fun i s Q E st hQ => hW.self i s Q E st.1 hQ
    fields := fun i h st => let ⟨o, fs, _, a, b, _⟩ := hJ i h st.1; ⟨o, fs, a, b⟩
    owns := fun i s t v Q E st h => let ⟨_, _, _, a, b, c, d⟩ := hJ i _ st.1; owns_plain a c b d h }
  more := fun X Y i h st k => by
    obtain ⟨j, r, n⟩ := st
    refine ⟨j, r.move fun a _ _ _ x _ e => ⟨e, fun y => (k a y).elim x fun z => by rw [z] at e; cases e⟩, fun y => (k ax y).elim n fun z => ?_⟩
    obtain ⟨o, _, e, _⟩ := hJa i h j
    rw [z] at e; cases e
/-- an iterator that makes its values -/
theorem wkx_made {I : Addr} {ds : List PyData} {P : Nat → Value → Prop} {J : Nat → Heap → Prop} (hW : Walks prog w A I [I] [I] ds.length P J) (hJ : ∀ i h, J i h → ∃ o fs n, h.get? I = some o ∧ o.data = .fields fs ∧ o.cls = .type n ∧ ownNames.contains n = false)
    (hP : ∀ i v d, ds[i]? = some d → P i v → ∀ X h, Rp X h v d) : WkX prog w A I ds (fun _ i h => J i h) where
  wk := fun X => {
    frame := fun i h h' st _ k => hW.frame i h h' st fun b hb o e => by simp at hb; subst hb; exact k o e
    item := fun i s Q E d hd st hQ => hW.item i s Q E (List.getElem?_eq_some_iff.mp hd).1 st fun v h' tk hv j' k => hQ v h' tk (hP i v d hd hv X h') j' fun b o nb e => k b o (by simpa using nb) e
    done := fun s Q E st hQ => hW.done s Q E st fun h' tk k => hQ h' tk fun b o nb e => k b o (by simpa using nb) e
    self := fun i s Q E st hQ => hW.self i s Q E st hQ
    fields := fun i h st => let ⟨o, fs, _, a, b, _⟩ := hJ i h st; ⟨o, fs, a, b⟩
    owns := fun i s t v Q E st h => let ⟨_, _, _, a, b, c, d⟩ := hJ i _ st; owns_plain a c b d h }
  more := fun _ _ _ _ st _ => st
/-- what a loop runs over -/
noncomputable def SR (prog : Program) (w : World) (hT : Heap) (A : Around) (X : Addr → Prop) (env : Env) (bs : List (Str × PyData)) (e : PySem.Expr) (ds : List PyData) : Prop :=
  ∀ (s : Shared) (E : Value → Shared → Prop), Ok hT X env bs s.heap → wpAny (model prog w) A (eval e env) (fun x s₁ => wpAny (model prog w) A (pyIter x) (fun it s₂ =>
    ∃ I St, it = .ref I ∧ s.heap.get? I = none ∧ Keeps s s₂ ∧ WkX prog w A I ds St ∧ St X 0 s₂.heap) E s₁) E s
theorem none_of_lt {h h' : Heap} {a : Addr} (g : Grow h h') (e : h'.objs.size ≤ a) : h.get? a = none := by
  cases q : h.get? a with
  | none => rfl
  | some o => exact absurd (Heap.lt_size (g _ _ q)) (Nat.not_lt.mpr e)
theorem sr_list {e : PySem.Expr} {ds : List PyData} (hh : A.handled = none) (h : EV prog w hT A X env bs e (.list ds)) : SR prog w hT A X env bs e ds := by
  intro s E ok
  refine wpAny_mono (h s E ok) ?_ fun _ _ e => e
  rintro v s₁ ⟨k1, r1⟩
  cases r1 with
  | @list a vs n _ e1 n1 r1 =>
    have l1 := r1.length
    simp only [Array.length_toList] at l1
    refine wpAny_pyIter_list ⟨_, e1, rfl, _, rfl⟩ ?_
    have g := grow_push s₁.heap { cls := .type "list_iterator", data := .fields #[.ref a, .int 0 0] }
    refine ⟨s₁.heap.objs.size, _, rfl, none_of_lt (keeps_grow k1) (Nat.le_refl _), keeps_trans k1 ⟨_, s₁.toks, rfl, g⟩,
      wkx_seq (J := fun i h => h.IsListIter s₁.heap.objs.size a i ∧ h.IsList a vs) (Nat.ne_of_lt (Heap.lt_size e1)) (Walks.list hh _ _ (Nat.ne_of_lt (Heap.lt_size e1)) vs) (fun i h ⟨⟨o, ho, hc, hd⟩, _⟩ => ⟨o, _, _, ho, hd, hc, rfl⟩)
        (fun i h ⟨_, ⟨o, ho, _, n, hd⟩⟩ => ⟨o, n, ho, hd⟩) l1, ⟨⟨_, Heap.get?_push_size _ rfl, rfl, rfl⟩, ⟨_, g _ _ e1, rfl, _, rfl⟩⟩, r1.grow g, n1⟩
theorem sr_tuple {e : PySem.Expr} {ds : List PyData} (hh : A.handled = none) (h : EV prog w hT A X env bs e (.tuple ds)) : SR prog w hT A X env bs e ds := by
  intro s E ok
  refine wpAny_mono (h s E ok) ?_ fun _ _ e => e
  rintro v s₁ ⟨k1, r1⟩
  cases r1 with
  | @tuple a vs n _ e1 n1 r1 =>
    have l1 := r1.length
    simp only [Array.length_toList] at l1
    refine wpAny_pyIter_tuple ⟨_, e1, rfl, _, rfl⟩ ?_
    have g := grow_push s₁.heap { cls := .type "tuple_iterator", data := .fields #[.ref a, .int 0 0] }
    refine ⟨s₁.heap.objs.size, _, rfl, none_of_lt (keeps_grow k1) (Nat.le_refl _), keeps_trans k1 ⟨_, s₁.toks, rfl, g⟩,
      wkx_seq (J := fun i h => h.IsTupleIter s₁.heap.objs.size a i ∧ h.IsTuple a vs) (Nat.ne_of_lt (Heap.lt_size e1)) (Walks.tuple hh _ _ (Nat.ne_of_lt (Heap.lt_size e1)) vs) (fun i h ⟨⟨o, ho, hc, hd⟩, _⟩ => ⟨o, _, _, ho, hd, hc, rfl⟩)
        (fun i h ⟨_, ⟨o, ho, _, n, hd⟩⟩ => ⟨o, n, ho, hd⟩) l1, ⟨⟨_, Heap.get?_push_size _ rfl, rfl, rfl⟩, ⟨_, g _ _ e1, rfl, _, rfl⟩⟩, r1.grow g, n1⟩
/-- a text's signs -/
noncomputable def signs (x : Str) : List PyData := x.cps.toList.map fun c => .str ⟨#[c]⟩
theorem sr_str {e : PySem.Expr} {x : Str} (hh : A.handled = none) (ha : x.cps.all (· < 128) = true) (h : EV prog w hT A X env bs e (.str x)) : SR prog w hT A X env bs e (signs x) := by
  intro s E ok
  refine wpAny_mono (h s E ok) ?_ fun _ _ e => e
  rintro v s₁ ⟨k1, r1⟩
  cases r1 with
  | str _ t =>
    refine wpAny_pyIter_ascii ha ?_
    have g := grow_push s₁.heap { cls := .type "str_ascii_iterator", data := .fields #[.str x t, .int 0 0] }
    have hl : (signs x).length = x.cps.size := by simp [signs]
    refine ⟨s₁.heap.objs.size, _, rfl, none_of_lt (keeps_grow k1) (Nat.le_refl _), keeps_trans k1 ⟨_, s₁.toks, rfl, g⟩,
      wkx_made (J := fun i h => h.IsStrIter s₁.heap.objs.size "str_ascii_iterator" x t i) (P := SignAt x) (by rw [hl]; exact Walks.strAscii hh _ x t) (fun i h ⟨o, ho, hc, hd⟩ => ⟨o, _, _, ho, hd, hc, rfl⟩) ?_, ⟨_, Heap.get?_push_size _ rfl, rfl, rfl⟩⟩
    rintro i v d hd ⟨c, u, hc, rfl⟩ X h
    simp only [signs, List.getElem?_map, Array.getElem?_toList, hc, Option.map_some, Option.some.injEq] at hd
    subst hd
    exact .str _ _
end Mine
end
section
open PySem PySem.W PyProof.Rows
namespace Mine
variable {prog : Program} {w : World} {hT : Heap} {A : Around} {X : Addr → Prop} {env : Env} {bs : List (Str × PyData)}
noncomputable def cEnv (scope : Scope) (cl : List (Str × Addr)) (C : Addr) (env : Env) : Env :=
  { scope := relabel scope env, locals := C, globals := env.globals, cells := cellsFrom (C + 1) scope.names cl, qual := env.qual, func := none, code := env.code, frame := env.frame, builtins := env.builtins }
theorem newEnv_comp {scope : Scope} {cl : List (Str × Addr)} {s : Shared} {M : Model} {E : Value → Shared → Prop} {Q : Env → Shared → Prop}
    (h : Q (newEnv scope s.heap.objs.size env.globals (cellsFrom (s.heap.objs.size + 1) scope.names cl) env.qual none .none (some env) builtinsNs) { s with heap := pushCells (s.heap.push { cls := .type "dict", data := .dict #[] }) scope.names }) :
    wpAny M A (newFunctionEnv scope env.globals cl [] env.qual none .none (some env)) Q E s := by
  simp only [newFunctionEnv, Option.isSome_some, if_true]
  refine wpAny_bind (wpAny_alloc ?_)
  refine wpAny_bind (wpAny_layCells _ (fun name kind cells => by cases kind == NameKind.cell <;> simp) _ _ _ _ ?_)
  rw [show ({ s with heap := s.heap.push { cls := .type "dict", data := .dict #[] } } : Shared).heap.objs.size = s.heap.objs.size + 1 from Heap.size_push ..]
  refine wpAny_bind ?_
  rw [List.forIn_nil]
  exact wpAny_pure (wpAny_pure h)
theorem cells_own : ∀ (names : List (Str × NameKind)) (h : Heap) (acc : List (Str × Addr)) (n : Str) (c : Addr), (cellsFrom h.objs.size names acc).lookup n = some c →
    ((pushCells h names).IsCell c none ∧ h.objs.size ≤ c ∧ c < (pushCells h names).objs.size) ∨ acc.lookup n = some c
  | [], _, _, _, _, e => .inr e
  | (name, kind) :: r, h, acc, n, c, e => by
    unfold cellsFrom at e
    unfold pushCells
    by_cases hk : (kind == NameKind.cell) = true
    · rw [if_pos hk] at e ⊢
      have e' := e
      rw [← show (h.push { cls := .type "cell", data := .cell none }).objs.size = h.objs.size + 1 from Heap.size_push ..] at e'
      rcases cells_own r (h.push { cls := .type "cell", data := .cell none }) _ n c e' with ⟨a, b, d⟩ | q
      · rw [Heap.size_push] at b
        exact .inl ⟨a, Nat.le_of_succ_le b, d⟩
      · rw [List.lookup_cons] at q
        cases hb : n == name with
        | true =>
          rw [hb] at q; cases q
          have : (pushCells (h.push { cls := .type "cell", data := .cell none }) r).IsCell h.objs.size none := ⟨_, pushCells_keeps _ _ _ _ (Heap.get?_push_size _ rfl), rfl⟩
          exact .inl ⟨this, Nat.le_refl _, this.lt⟩
        | false => rw [hb] at q; exact .inr q
    · rw [if_neg hk] at e ⊢
      exact cells_own r h acc n c e
/-- the comprehension's scope at its start: nothing but what it captures -/
theorem sc_start {scope : Scope} {cl : List (Str × Addr)} {cbs : List (Str × PyData)} {h : Heap} (hsc : Sc X env bs h)
    (hcl : ∀ n c, cl.lookup n = some c → env.cells.lookup n = some c)
    (hcap : ∀ x d, cbs.lookup x = some d → bs.lookup x = some d ∧ (env.kindOf x = some .cell ∨ env.kindOf x = some .free) ∧
      ((cEnv scope cl h.objs.size env).kindOf x = some .cell ∨ (cEnv scope cl h.objs.size env).kindOf x = some .free) ∧ (cEnv scope cl h.objs.size env).cells.lookup x = env.cells.lookup x) :
    Sc X (cEnv scope cl h.objs.size env) cbs (pushCells (h.push { cls := .type "dict", data := .dict #[] }) scope.names) := by
  obtain ⟨m, cm, hn, hc, hb⟩ := hsc
  have hsz : (h.push { cls := .type "dict", data := .dict #[] }).objs.size = h.objs.size + 1 := Heap.size_push ..
  have g : Grow h (pushCells (h.push { cls := .type "dict", data := .dict #[] }) scope.names) := fun b o e => pushCells_keeps _ _ b o (Heap.get?_push_of_some _ e)
  refine ⟨fun _ => none, fun n => match (cEnv scope cl h.objs.size env).cells.lookup n with | some c => if c ≤ h.objs.size then cm n else none | none => none,
    (Heap.Ns.new h (.type "dict")).keeps (pushCells_keeps _ _), fun n c e => ?_, fun x d e => ?_⟩
  · have e' : (cellsFrom (h.push { cls := .type "dict", data := .dict #[] }).objs.size scope.names cl).lookup n = some c := by rw [hsz]; exact e
    simp only [e]
    rcases cells_own _ _ _ _ _ e' with ⟨a, b, _⟩ | q
    · rw [hsz] at b
      rw [if_neg (Nat.not_le.mpr (Nat.lt_of_succ_le b))]; exact a
    · have hlt := (hc n c (hcl n c q)).lt
      rw [if_pos (Nat.le_of_lt hlt)]
      exact (hc n c (hcl n c q)).keeps g
  · obtain ⟨h1, h2, h3, h4⟩ := hcap x d e
    obtain ⟨v, rv, av⟩ := hb x d h1
    refine ⟨v, rv.grow g, .inr ⟨h3, ?_, ?_⟩⟩
    · rcases av with ⟨q, _⟩ | ⟨_, q, _⟩
      · rcases h2 with z | z <;> rw [z] at q <;> cases q
      · rw [h4]; exact q
    · rcases av with ⟨q, _⟩ | ⟨_, ⟨c, q⟩, q2⟩
      · rcases h2 with z | z <;> rw [z] at q <;> cases q
      · have hlt := (hc x c q).lt
        simp only [h4, q, if_pos (Nat.le_of_lt hlt)]
        exact q2
/-- one object that is neither namespace nor cell is turned -/
theorem Sc.but {h h' : Heap} {I : Addr} {o : Obj} (q : Sc X env bs h) (hI : h.get? I = some o) (h1 : ∀ es ep, o.data ≠ .dict es ep) (h2 : ∀ v, o.data ≠ .cell v) (hcalm : Calm X h h')
    (k : ∀ b o, b ≠ I → h.get? b = some o → h'.get? b = some o) : Sc X env bs h' := by
  obtain ⟨m, cm, a, b, c⟩ := q
  refine ⟨m, cm, a.at' fun o' e => k _ o' (fun z => ?_) e, fun n c' e => ?_, fun x d e => let ⟨v, r, z⟩ := c x d e; ⟨v, r.calm hcalm, z⟩⟩
  · subst z
    obtain ⟨o'', es, ep, ho, hd, _⟩ := a
    rw [hI] at ho; cases ho; exact h1 _ _ hd
  · obtain ⟨o', ho, hd⟩ := b n c' e
    exact ⟨o', k _ _ (fun z => by subst z; rw [hI] at ho; cases ho; exact h2 _ hd) ho, hd⟩
theorem Sc.weak {h : Heap} {cs : List (Str × PyData)} (q : Sc X env bs h) (k : ∀ x d, cs.lookup x = some d → bs.lookup x = some d) : Sc X env cs h :=
  let ⟨m, cm, a, b, c⟩ := q; ⟨m, cm, a, b, fun x d e => c x d (k x d e)⟩
theorem Sc.more {Y : Addr → Prop} {h : Heap} (q : Sc X env bs h) (k : ∀ a, Y a → X a ∨ h.get? a = none) : Sc Y env bs h :=
  let ⟨m, cm, a, b, c⟩ := q; ⟨m, cm, a, b, fun x d e => let ⟨v, r, z⟩ := c x d e; ⟨v, r.more k, z⟩⟩
end Mine
end
section
open PySem PySem.W PyProof.Rows
namespace Mine
variable {prog : Program} {w : World} {hT : Heap} {A : Around} {X : Addr → Prop} {env : Env} {bs : List (Str × PyData)}
noncomputable abbrev XD (X : Addr → Prop) (D : Addr) : Addr → Prop := fun a => X a ∨ a = D
theorem compTurn_l1 (elt target iter : PySem.Expr) (scope : Scope) (pos : Pos) (it acc : Value) (env : Env) :
    compTurn (.ListComp elt [⟨target, iter, [], 0⟩] scope pos) 0 it acc env = (standAt iter.pos >>= fun _ => pyNext it >>= fun r => match r with
      | none => pure (.done .next)
      | some v => letOwnedTupleGo target it v >>= fun _ => assign target env v >>= fun _ =>
        (eval elt env >>= fun x => call (.builtin "list.append") [acc, x] >>= fun _ => pure ()) >>= fun _ =>
          again (.compLoop (.ListComp elt [⟨target, iter, [], 0⟩] scope pos) 0 it acc env)) := by rfl
/-- how a target is bound, turn by turn -/
noncomputable def Asg (prog : Program) (w : World) (A : Around) (X : Addr → Prop) (Pv : Addr → Prop) (cenv : Env) (cbs : List (Str × PyData)) (target : PySem.Expr) (d : PyData) (tb : List (Str × PyData)) : Prop :=
  ∀ (s : Shared) (v : Value) (E : Value → Shared → Prop) (Q : Unit → Shared → Prop), Sc X cenv cbs s.heap → Rp X s.heap v d →
    (∀ s', Sc X cenv tb s'.heap → Mv Pv s s' → Calm X s.heap s'.heap → Q () s') → wpAny (model prog w) A (assign target cenv v) Q E s
theorem comp_loop {elt target iter : PySem.Expr} {scope : Scope} {pos : Pos} {I D : Addr} {cenv : Env} {cbs : List (Str × PyData)} {ds : List PyData} {St : (Addr → Prop) → Nat → Heap → Prop} {Pv : Addr → Prop}
    {tb : PyData → List (Str × PyData)} {f : PyData → PyData} {R : Result → Shared → Prop} {s sb : Shared}
    (hk : cenv.scope.kind = .function) (W : WkX prog w A I ds St) (hDI : D ≠ I) (hPD : ¬ Pv D) (hPI : ¬ Pv I) (hbase : ∀ a, (Pv a ∨ a = D ∨ a = I) → sb.heap.get? a = none) (htop : Grow hT sb.heap) (hxi : XI X sb.heap) (hlen : ds.length ≤ 1000000)
    (hasg : ∀ d ∈ ds, Asg prog w A (XD X D) Pv cenv cbs target d (tb d)) (hwk : ∀ d ∈ ds, ∀ x e, cbs.lookup x = some e → (tb d).lookup x = some e)
    (helt : ∀ d ∈ ds, EV prog w hT A (XD X D) cenv (tb d) elt (f d))
    (hst : St (XD X D) 0 s.heap) (hacc : ∃ n, s.heap.get? D = some { cls := .type "list", data := .seq #[] n }) (hsc : Sc (XD X D) cenv cbs s.heap) (hkp : Keeps sb s)
    (hR : ∀ s' ys n, Keeps sb s' → s'.heap.get? D = some { cls := .type "list", data := .seq ys n } → RpL (XD X D) s'.heap ys.toList (ds.map f) → Sc (XD X D) cenv cbs s'.heap → R (.ok .next) s') :
    codeAny (model prog w) A (.compLoop (.ListComp elt [⟨target, iter, [], 0⟩] scope pos) 0 (.ref I) (.ref D) cenv) R s := by
  have hXb : ∀ a, (XD X D) a → ∀ s' : Shared, Keeps sb s' → (∃ o, s'.heap.get? D = some o) → ∃ o, s'.heap.get? a = some o := fun a ha s' k hd => by
    rcases ha with ha | rfl
    · obtain ⟨o, e⟩ := hxi a ha; exact ⟨o, keeps_grow k a o e⟩
    · exact hd
  refine codeAny_loop rfl (fun n s' => ∃ k ys e, k ≤ ds.length ∧ n = ds.length + 1 - k ∧ Keeps sb s' ∧ St (XD X D) k s'.heap ∧ s'.heap.get? D = some { cls := .type "list", data := .seq ys e } ∧
    RpL (XD X D) s'.heap ys.toList ((ds.take k).map f) ∧ Sc (XD X D) cenv cbs s'.heap) ?_ (ds.length + 1) ?_
  · rintro n s₀ ⟨k, ys, ep, hkl, rfl, kp, st, hD, rD, sc⟩
    show wpAny _ _ ((compTurn (.ListComp elt [⟨target, iter, [], 0⟩] scope pos) 0 (.ref I) (.ref D) cenv).onRaise (fun x => do noteFrame x cenv; theTreesLotGoes x)) _ _ s₀
    refine wpAny_noted ?_
    rw [compTurn_l1]
    refine wpAny_bind (wpAny_standAt (wpAny_bind ?_))
    obtain ⟨oI, fs, hI, hIf⟩ := (W.wk (XD X D)).fields _ _ st
    by_cases hlt : k < ds.length
    · have hd : ds[k]? = some ds[k] := by simp
      have hm : ds[k] ∈ ds := List.getElem_mem _
      refine (W.wk (XD X D)).item k s₀ _ _ ds[k] hd st fun v h₁ tk₁ rv st₁ k₁ => ?_
      have c₁ : Calm (XD X D) s₀.heap h₁ := calm_fields hI hIf k₁
      have sc₁ : Sc (XD X D) cenv cbs h₁ := sc.but hI (fun _ _ q => by rw [hIf] at q; cases q) (fun _ q => by rw [hIf] at q; cases q) c₁ k₁
      have hD₁ := k₁ D _ hDI hD
      have mv₁ : Mv (fun a => a = I) s₀ { s₀ with heap := h₁, toks := tk₁ } := ⟨h₁, tk₁, rfl, k₁⟩
      have kp₁ := mv₁.keeps kp fun a q => hbase a (.inr (.inr q))
      refine wpAny_bind ((W.wk (XD X D)).owns _ _ _ _ _ _ st₁ ?_)
      refine wpAny_bind (hasg _ hm { s₀ with heap := h₁, toks := tk₁ } v _ _ sc₁ rv fun s₂ sc₂ mv₂ c₂ => ?_)
      have hD₂ := mv₂.get D _ hPD hD₁
      have kp₂ := mv₂.keeps kp₁ fun a q => hbase a (.inl q)
      have st₂ := (W.wk (XD X D)).frame _ _ _ st₁ c₂ fun o e => mv₂.get I o hPI e
      have ok₂ : Ok hT (XD X D) cenv (tb ds[k]) s₂.heap := ⟨hk, sc₂, htop.trans (keeps_grow kp₂), fun a ha => hXb a ha s₂ kp₂ ⟨_, hD₂⟩⟩
      refine wpAny_bind (wpAny_bind (wpAny_mono (helt _ hm s₂ _ ok₂) ?_ fun _ _ e => e))
      rintro y s₃ ⟨k₃, ry⟩
      have g₃ := keeps_grow k₃
      have hD₃ := g₃ D _ hD₂
      have kp₃ := keeps_trans kp₂ k₃
      have st₃ := (W.wk (XD X D)).frame _ _ _ st₂ (calm_grow g₃) fun o e => g₃ I o e
      have l1 := rD.length
      simp only [Array.length_toList, List.length_map, List.length_take] at l1
      have hys : ys.size ≤ ds.length := by omega
      refine wpAny_bind (wpAny_list_append_plain (hsz := by show _ ≤ 2 ^ 24; omega) ⟨_, hD₃⟩ fun h₄ ⟨n₄, hD₄⟩ sb₄ => ?_)
      have c₄ : Calm (XD X D) s₃.heap h₄ := fun a o vs n na _ e => sb₄.extBut a o (fun q => na (.inr q)) e
      have mv₄ : Mv (fun a => a = D) s₃ { s₃ with heap := h₄ } := ⟨h₄, s₃.toks, rfl, fun b o nb e => sb₄.extBut b o nb e⟩
      have sc₃ : Sc (XD X D) cenv cbs s₃.heap := (sc₂.grow g₃).weak (hwk _ hm)
      have sc₄ : Sc (XD X D) cenv cbs h₄ := sc₃.but hD₃ (fun _ _ q => by cases q) (fun _ q => by cases q) c₄ fun b o nb e => sb₄.extBut b o nb e
      refine wpAny_pure (wpAny_pure ⟨rfl, ds.length + 1 - (k + 1), by omega, k + 1, ys.push y, n₄, hlt, rfl, mv₄.keeps kp₃ fun a q => hbase a (.inr (.inl q)), (W.wk (XD X D)).frame _ _ _ st₃ c₄ (fun o e => sb₄.extBut I o (Ne.symm hDI) e), hD₄, ?_, sc₄⟩)
      have rys : RpL (XD X D) h₄ ys.toList ((ds.take k).map f) := (((rD.calm c₁).calm c₂).grow g₃).calm c₄
      rw [Array.toList_push, List.take_add_one, hd, List.map_append]
      exact rys.append (.cons (ry.calm c₄) .nil)
    · have hk' : k = ds.length := by omega
      subst hk'
      refine (W.wk (XD X D)).done s₀ _ _ st fun h₁ tk₁ k₁ => ?_
      have c₁ : Calm (XD X D) s₀.heap h₁ := calm_fields hI hIf k₁
      have mv₁ : Mv (fun a => a = I) s₀ { s₀ with heap := h₁, toks := tk₁ } := ⟨h₁, tk₁, rfl, k₁⟩
      refine wpAny_pure (hR _ ys ep (mv₁.keeps kp fun a q => hbase a (.inr (.inr q))) (k₁ D _ hDI hD) ?_ (sc.but hI (fun _ _ q => by rw [hIf] at q; cases q) (fun _ q => by rw [hIf] at q; cases q) c₁ k₁))
      have := rD.calm c₁
      rwa [List.take_length] at this
  · obtain ⟨n, hD⟩ := hacc
    exact ⟨0, #[], n, Nat.zero_le _, rfl, hkp, hst, hD, by simpa using RpL.nil, hsc⟩
end Mine
end
section
open PySem PySem.W PyProof.Rows
namespace Mine
variable {prog : Program} {w : World} {hT : Heap} {A : Around} {X : Addr → Prop} {env : Env} {bs : List (Str × PyData)}
noncomputable abbrev CL (cl : List (Str × Addr)) (C : Addr) : Prop := ∀ n c, cl.lookup n = some c → c < C
/-- the comprehension's parts -/
structure Cmp (prog : Program) (w : World) (hT : Heap) (A : Around) (env : Env) (bs : List (Str × PyData)) (elt target : PySem.Expr) (scope : Scope) (cl : List (Str × Addr)) (cbs : List (Str × PyData))
    (ds : List PyData) (tb : PyData → List (Str × PyData)) (f : PyData → PyData) : Prop where
  clos : closureFor scope env = pure cl
  kind : scope.kind = .function
  names : ∀ x ∈ scope.names, x.2 = .local → scope.names.lookup x.1 = some .local
  cells : ∀ n c, cl.lookup n = some c → env.cells.lookup n = some c
  cap : ∀ C x d, cbs.lookup x = some d → bs.lookup x = some d ∧ (env.kindOf x = some .cell ∨ env.kindOf x = some .free) ∧
      ((cEnv scope cl C env).kindOf x = some .cell ∨ (cEnv scope cl C env).kindOf x = some .free) ∧ (cEnv scope cl C env).cells.lookup x = env.cells.lookup x
  asg : ∀ C Y, CL cl C → ∀ d ∈ ds, Asg prog w A Y (fun a => C ≤ a) (cEnv scope cl C env) cbs target d (tb d)
  weak : ∀ d ∈ ds, ∀ x e, cbs.lookup x = some e → (tb d).lookup x = some e
  elt : ∀ C Y, CL cl C → ∀ d ∈ ds, EV prog w hT A Y (cEnv scope cl C env) (tb d) elt (f d)
  len : ds.length ≤ 1000000
theorem comp_core {elt target iter : PySem.Expr} {scope : Scope} {pos : Pos} {cl : List (Str × Addr)} {cbs : List (Str × PyData)} {ds : List PyData} {tb : PyData → List (Str × PyData)} {f : PyData → PyData}
    {RR : Value → Addr → Result → Shared → Prop} {s : Shared} {E : Value → Shared → Prop} (K : Cmp prog w hT A env bs elt target scope cl cbs ds tb f) (hsrc : SR prog w hT A X env bs iter ds) (ok : Ok hT X env bs s.heap)
    (hRR : ∀ D C s', Keeps s s' → s.heap.get? D = none → s.heap.get? C = none → D ≠ C → (∃ m, s'.heap.Ns C m) → Rp X s'.heap (.ref D) (.list (ds.map f)) → RR (.ref D) C (.ok .next) s') :
    wpAny (model prog w) A (eval iter env) (fun x s₁ => wpAny (model prog w) A (pyIter x) (fun it s₂ => wpAny (model prog w) A (newList []) (fun acc s₃ =>
      wpAny (model prog w) A (newFunctionEnv scope env.globals cl [] env.qual none .none (some env)) (fun cenv s₄ =>
        codeAny (model prog w) A (.compStart (.ListComp elt [⟨target, iter, [], 0⟩] scope pos) 0 it acc { cenv with scope := relabel scope env }) (RR acc cenv.locals) s₄) E s₃) E s₂) E s₁) E s := by
  refine wpAny_mono (hsrc s E ok) (fun x s₁ h₁ => wpAny_mono h₁ (fun it s₂ h₂ => ?_) fun _ _ e => e) fun _ _ e => e
  obtain ⟨I, St, rfl, hIn, k₂, W, st⟩ := h₂
  refine wpAny_newObj_type ?_
  let D := s₂.heap.objs.size
  let h₃ := s₂.heap.push { cls := .type "list", dict := none, data := .seq ([] : List Value).toArray }
  have hDn : s₂.heap.get? D = none := none_of_lt (Grow.refl _) (Nat.le_refl _)
  have hIlt : I < D := by
    obtain ⟨o, fs, e, _⟩ := (W.wk X).fields _ _ st
    exact Heap.lt_size e
  have g₃ : Grow s₂.heap h₃ := grow_push _ _
  have hsz : h₃.objs.size = D + 1 := Heap.size_push ..
  have ok₂ := ok.keeps k₂
  have st₂ : St (XD X D) 0 s₂.heap := W.more X (XD X D) 0 _ st fun a ha => ha.imp id fun q => by subst q; exact hDn
  have st₃ : St (XD X D) 0 h₃ := (W.wk _).frame _ _ _ st₂ (calm_grow g₃) fun o e => g₃ I o e
  have sc₂ : Sc (XD X D) env bs s₂.heap := ok₂.sc.more fun a ha => ha.imp id fun q => by subst q; exact hDn
  have sc₃ : Sc (XD X D) env bs h₃ := sc₂.grow g₃
  refine newEnv_comp ?_
  show codeAny _ A (.compStart _ 0 (.ref I) (.ref D) (cEnv scope cl h₃.objs.size env)) (RR (.ref D) h₃.objs.size) { s₂ with heap := pushCells (h₃.push { cls := .type "dict", data := .dict #[] }) scope.names }
  have g₄ : Grow h₃ (pushCells (h₃.push { cls := .type "dict", data := .dict #[] }) scope.names) := fun b o e => pushCells_keeps _ _ b o (Heap.get?_push_of_some _ e)
  have sc₄ := sc_start (scope := scope) (cl := cl) (cbs := cbs) sc₃ K.cells (K.cap h₃.objs.size)
  have hCL : CL cl h₃.objs.size := fun n c e => by
    obtain ⟨_, cm, _, hc, _⟩ := sc₃
    exact (hc n c (K.cells n c e)).lt
  have hDs : s.heap.get? D = none := none_of_lt (keeps_grow k₂) (Nat.le_refl _)
  have hCs : ∀ a, h₃.objs.size ≤ a → s.heap.get? a = none := fun a ha => none_of_lt ((keeps_grow k₂).trans g₃) ha
  have hDC : D < h₃.objs.size := by rw [hsz]; exact Nat.lt_succ_self _
  have loop : ∀ sx : Shared, sx = { s₂ with heap := pushCells (h₃.push { cls := .type "dict", data := .dict #[] }) scope.names } →
      codeAny (model prog w) A (.compLoop (.ListComp elt [⟨target, iter, [], 0⟩] scope pos) 0 (.ref I) (.ref D) (cEnv scope cl h₃.objs.size env)) (RR (.ref D) h₃.objs.size) sx := by
    rintro sx rfl
    refine comp_loop (hT := hT) (X := X) (sb := s) (Pv := fun a => h₃.objs.size ≤ a) (tb := tb) (f := f) K.kind W (Nat.ne_of_gt hIlt) (Nat.not_le.mpr hDC) (Nat.not_le.mpr (Nat.lt_trans hIlt hDC)) ?_ ok.top ok.xi K.len
      (K.asg _ _ hCL) K.weak (K.elt _ _ hCL) ((W.wk _).frame _ _ _ st₃ (calm_grow g₄) fun o e => g₄ I o e) ⟨0, g₄ _ _ (Heap.get?_push_size _ rfl)⟩ sc₄ (keeps_trans k₂ ⟨_, s₂.toks, rfl, g₃.trans g₄⟩) ?_
    · rintro a (q | rfl | rfl)
      · exact hCs a q
      · exact hDs
      · exact hIn
    · intro s' ys n kp hD r sc
      obtain ⟨m, _, hn, _⟩ := sc
      exact hRR D h₃.objs.size s' kp hDs (hCs _ (Nat.le_refl _)) (Nat.ne_of_lt hDC) ⟨m, hn⟩ (.list hD (ok.xi.notnone hDs) (r.less fun a q => .inl q))
  exact codeAny_compStart_list (loop _ rfl) ((W.wk _).self 0 _ _ _ ((W.wk _).frame _ _ _ st₃ (calm_grow g₄) fun o e => g₄ I o e) (loop _ rfl))
/-- a frame's own places -/
noncomputable abbrev PvE (env : Env) : Addr → Prop := fun a => a = env.locals ∨ ∃ n, env.cells.lookup n = some a
theorem keeps_but {s s' : Shared} {C : Addr} {h' : Heap} (k : Keeps s s') (hC : s.heap.get? C = none) (hs : Heap.SameBut C s'.heap h') : Keeps s { s' with heap := h' } := by
  obtain ⟨h, t, rfl, g⟩ := k
  exact ⟨h', t, rfl, fun b o e => hs.extBut b o (fun q => by subst q; rw [hC] at e; cases e) (g b o e)⟩
theorem ev_comp {elt target iter : PySem.Expr} {scope : Scope} {pos : Pos} {cl : List (Str × Addr)} {cbs : List (Str × PyData)} {ds : List PyData} {tb : PyData → List (Str × PyData)} {f : PyData → PyData}
    (K : Cmp prog w hT A env bs elt target scope cl cbs ds tb f) (hsrc : SR prog w hT A X env bs iter ds) (hs : ∀ x, foldedSetIterable iter env x = pure x := by intro _; rfl) :
    EV prog w hT A X env bs (.ListComp elt [⟨target, iter, [], 0⟩] scope pos) (.list (ds.map f)) := by
  intro s E ok
  rw [eval_ListComp]
  refine wpAny_comprehension_free (use := none) rfl hs K.clos K.kind K.names (comp_core (RR := fun acc C => compPost (model prog w) A E none (Gives s X (.list (ds.map f))) acc C) K hsrc ok ?_)
  intro D C s' kp hD hC hne ⟨m, hn⟩ r
  exact ⟨m, hn, fun h' hs' => ⟨keeps_but kp hC hs', r.ns hn hs'⟩⟩
/-- a comprehension stored at once -/
theorem st_comp {elt target iter : PySem.Expr} {scope : Scope} {pos spos py : Pos} {y : Str} {cl : List (Str × Addr)} {cbs : List (Str × PyData)} {ds : List PyData} {tb : PyData → List (Str × PyData)} {f : PyData → PyData}
    {s : Shared} {E : Value → Shared → Prop} {Q : Flow → Shared → Prop}
    (K : Cmp prog w hT A env bs elt target scope cl cbs ds tb f) (hsrc : SR prog w hT A X env bs iter ds) (ok : Ok hT X env bs s.heap)
    (hsw : swapsWith (.ListComp elt [⟨target, iter, [], 0⟩] scope pos) (some (.Name y py)) spos.line env = pure true) (hst : StoreAt (PvE env) env y)
    (h : ∀ s', Sc X env ((y, .list (ds.map f)) :: bs) s'.heap → Mv (PvE env) s s' → Q .next s') (hs : ∀ x, foldedSetIterable iter env x = pure x := by intro _; rfl) :
    wpAny (model prog w) A (exec (.Assign [.Name y py] (.ListComp elt [⟨target, iter, [], 0⟩] scope pos) spos) env) Q E s := by
  rw [exec_Assign_Name_used _ _ _ _ hsw]
  refine wpAny_bind (wpAny_standAt (wpAny_bind ?_))
  show wpAny _ A (do let _ ← comprehension (.ListComp elt [⟨target, iter, [], 0⟩] scope pos) scope env _ (newList []) false (eval iter env) (some (assign (.Name y py) env))) _ _ s
  refine wpAny_bind (wpAny_mono (wpAny_comprehension_free (use := some (assign (.Name y py) env)) (Q := fun _ s' => Q .next s') rfl hs K.clos K.kind K.names
    (comp_core (RR := fun acc C => compPost (model prog w) A E (some (assign (.Name y py) env)) (fun _ s' => Q .next s') acc C) K hsrc ok ?_)) (fun _ s' hq => wpAny_pure (wpAny_pure hq)) fun _ _ e => e)
  intro D C s' kp hD hC hne ⟨m, hn⟩ r
  have ok' := ok.keeps kp
  show wpAny _ A (assign (.Name y py) env (.ref D)) _ _ s'
  refine assign_name (Pv := PvE env) ok.kind ok'.sc r hst fun s₂ sc₂ mv₂ c₂ => ?_
  have hnP : ¬ PvE env C := fun q => by
    obtain ⟨m₀, _, hn₀, hc₀, _⟩ := ok.sc
    rcases q with q | ⟨n, q⟩
    · obtain ⟨o, _, _, e, _⟩ := hn₀
      rw [← q, hC] at e; cases e
    · obtain ⟨o, e, _⟩ := hc₀ n C q
      rw [hC] at e; cases e
  have hn₂ : s₂.heap.Ns C m := hn.at' fun o e => mv₂.get C o hnP e
  refine ⟨m, hn₂, fun h' hs' => ?_⟩
  have mv : Mv (PvE env) s { s₂ with heap := h' } := by
    obtain ⟨g, t, rfl, k⟩ := (Mv.of kp).trans mv₂
    exact ⟨h', t, rfl, fun b o nb e => hs'.extBut b o (fun q => by subst q; rw [hC] at e; cases e) (k b o nb e)⟩
  refine h _ ?_ mv
  obtain ⟨m', cm', a, b, c⟩ := sc₂
  have calm : Calm X s₂.heap h' := calm_ns hn₂ hs'
  exact ⟨m', cm', a.sameBut hs' fun q => hnP (.inl q.symm), fun n c' e => (b n c' e).sameBut hs' (ns_ne_cell hn₂ (b n c' e)).symm, fun x d e => let ⟨v, rv, z⟩ := c x d e; ⟨v, rv.calm calm, z⟩⟩
end Mine
end
section
open PySem PySem.W PyProof.Rows
namespace Mine
variable {prog : Program} {w : World} {hT : Heap} {A : Around} {X : Addr → Prop} {env : Env} {bs : List (Str × PyData)}
/-- room for k calls -/
noncomputable def ARoom (k : Nat) (A : Around) : Prop := A.handled = none ∧ A.depth + k < 1000 ∧ A.units + 10 * k + 100 < 9900
theorem ARoom.deeper {k : Nat} (h : ARoom (k + 1) A) (env : Env) : ARoom k (A.deeper env) := ⟨h.1, by have := h.2.1; show A.depth + 1 + k < 1000; omega, by have := h.2.2; show A.units + 3 + 10 * k + 100 < 9900; omega⟩
theorem ARoom.less {j k : Nat} (h : ARoom k A) (q : j ≤ k) : ARoom j A := ⟨h.1, by have := h.2.1; omega, by have := h.2.2; omega⟩
theorem ARoom.cl {k : Nat} (h : ARoom k A) : A.units + 65 < cLine := by have := h.2.2; show _ < 9900; omega
noncomputable def GN (hT : Heap) (x : Str) (v : Value) : Prop := ∃ mg, hT.Ns mainGlobals mg ∧ mg x = some v
noncomputable def BN (hT : Heap) (x : Str) (v : Value) : Prop := ∃ mg mb, hT.Ns mainGlobals mg ∧ mg x = none ∧ hT.Ns builtinsNs mb ∧ mb x = some v
/-- a def's contract -/
noncomputable def FN (prog : Program) (w : World) (hT : Heap) (a : Addr) (ds : List PyData) (d : PyData) (k : Nat) : Prop :=
  ∀ (A : Around) (X : Addr → Prop) (s : Shared) (R : Result → Shared → Prop) (vals : List Value), ARoom k A → Grow hT s.heap → XI X s.heap → RpL X s.heap vals ds →
    (∀ v s', Keeps s s' → Rp X s'.heap v d → R (.ok (.ret v)) s') → codeAny (model prog w) A (.call (.ref a) ⟨vals, []⟩) R s
theorem nm_global {x : Str} {pos : Pos} {v : Value} {s : Shared} {E : Value → Shared → Prop} {Q : Value → Shared → Prop} (hg : GN hT x v) (hx : env.kindOf x = some .globalImplicit) (hgl : env.globals = mainGlobals) (ok : Ok hT X env bs s.heap) (h : Q v s)
    (hd : (x == ("__debug__" : Str)) = false := by decide) : wpAny (model prog w) A (eval (.Name x pos) env) Q E s := by
  obtain ⟨mg, hn, hv⟩ := hg
  exact Calls.Name_function_global ok.kind hx (Calls.loadGlobal_global (by rw [hgl]; exact hn.keeps ok.top) hv h) hd
theorem nm_builtin {x : Str} {pos : Pos} {v : Value} {s : Shared} {E : Value → Shared → Prop} {Q : Value → Shared → Prop} (hg : BN hT x v) (hx : env.kindOf x = some .globalImplicit) (hgl : env.globals = mainGlobals) (hbl : env.builtins = builtinsNs) (ok : Ok hT X env bs s.heap) (h : Q v s)
    (hd : (x == ("__debug__" : Str)) = false := by decide) : wpAny (model prog w) A (eval (.Name x pos) env) Q E s := by
  obtain ⟨mg, mb, hn, hv, hb, hw⟩ := hg
  exact Calls.Name_function_global ok.kind hx (Calls.loadGlobal_builtin (by rw [hgl]; exact hn.keeps ok.top) hv (by rw [hbl]; exact hb.keeps ok.top) hw h) hd
/-- the arguments of a call -/
theorem args_evl {es : List PySem.Expr} {ds : List PyData} {f : Value} {pos : Pos} {s : Shared} {E : Value → Shared → Prop} {Q : Args → Shared → Prop} (h : EVL prog w hT A X env bs es ds) (ok : Ok hT X env bs s.heap)
    (hne : ∃ x rest, backTo pos (starEach es env) = (false, x) :: rest) (hQ : ∀ vs s', Keeps s s' → RpL X s'.heap vs ds → Q ⟨vs, []⟩ s') : wpAny (model prog w) A (evalArgs f true (backTo pos (starEach es env)) []) Q E s := by
  obtain ⟨x, rest, e⟩ := hne
  have := h pos s E ok
  rw [e] at this ⊢
  exact Calls.evalArgs_plain (wpAny_mono this (fun vs s' q => hQ vs s' q.1 q.2) fun _ _ e => e)
theorem ev_call {fn : Str} {p pos : Pos} {es : List PySem.Expr} {a : Addr} {ds : List PyData} {d : PyData} {k : Nat} (hg : GN hT fn (.ref a)) (hx : env.kindOf fn = some .globalImplicit) (hgl : env.globals = mainGlobals)
    (hf : FN prog w hT a ds d k) (hA : ARoom k A) (hfd : ∃ o fd, hT.get? a = some o ∧ o.data = .func fd) (hargs : EVL prog w hT A X env bs es ds)
    (hne : ∃ x rest, backTo pos (starEach es env) = (false, x) :: rest := by exact ⟨_, _, rfl⟩) (hd : (fn == ("__debug__" : Str)) = false := by decide) :
    EV prog w hT A X env bs (.Call (.Name fn p) es [] pos) d := by
  intro s E ok
  refine wpAny_Call_Name_kw (nm_global hg hx hgl ok ?_ hd)
  obtain ⟨o, fd, ho, hfd⟩ := hfd
  refine Calls.callWith_function (o := o) (fd := fd) (args_evl hargs ok hne fun vs s₁ k₁ r₁ => ⟨⟨ok.top.trans (keeps_grow k₁) _ _ ho, hfd⟩, ?_⟩)
  refine wpAny_call (hf A X s₁ _ vs hA (ok.keeps k₁).top (ok.keeps k₁).xi r₁ fun v s₂ k₂ r₂ => ⟨keeps_trans k₁ k₂, r₂⟩)
/-- a built-in function -/
theorem ev_builtin {fn : Str} {p pos : Pos} {es : List PySem.Expr} {id : String} {ds : List PyData} {d : PyData} (hg : BN hT fn (.builtin id)) (hx : env.kindOf fn = some .globalImplicit) (hgl : env.globals = mainGlobals) (hbl : env.builtins = builtinsNs)
    (hargs : EVL prog w hT A X env bs es ds)
    (hcall : ∀ (s : Shared) (E : Value → Shared → Prop) vs, XI X s.heap → RpL X s.heap vs ds → wpAny (model prog w) A (call (.builtin id) vs) (Gives s X d) E s)
    (hne : ∃ x rest, backTo pos (starEach es env) = (false, x) :: rest := by exact ⟨_, _, rfl⟩) (hpl : (backTo pos (starEach es env)).any (·.1) = false := by rfl) (hd : (fn == ("__debug__" : Str)) = false := by decide) :
    EV prog w hT A X env bs (.Call (.Name fn p) es [] pos) d := by
  intro s E ok
  refine wpAny_Call_Name_kw (nm_builtin hg hx hgl hbl ok ?_ hd)
  refine Calls.callWith_builtin hpl (args_evl hargs ok hne fun vs s₁ k₁ r₁ => ?_)
  refine wpAny_mono (hcall s₁ E vs (ok.keeps k₁).xi r₁) (fun v s₂ q => ⟨keeps_trans k₁ q.1, q.2⟩) fun _ _ e => e
/-- a frame -/
structure FC (hT : Heap) (X : Addr → Prop) (s₀ : Shared) (env : Env) : Prop where
  kind : env.scope.kind = .function
  top : Grow hT s₀.heap
  xi : XI X s₀.heap
  priv : ∀ a, PvE env a → s₀.heap.get? a = none
  glob : env.globals = mainGlobals
  blt : env.builtins = builtinsNs
  apart : ∀ x y c c', env.cells.lookup x = some c → env.cells.lookup y = some c' → x ≠ y → c ≠ c'
noncomputable def ST (prog : Program) (w : World) (A : Around) (X : Addr → Prop) (s₀ : Shared) (env : Env) (bs : List (Str × PyData)) (body : List PySem.Stmt) (d : PyData) : Prop :=
  ∀ (s : Shared) (E : Value → Shared → Prop), Sc X env bs s.heap → Keeps s₀ s → wpAny (model prog w) A (execs body env) (fun fl s' => ∃ v, fl = .ret v ∧ Keeps s₀ s' ∧ Rp X s'.heap v d) E s
theorem FC.ok {s₀ s : Shared} (F : FC hT X s₀ env) (hsc : Sc X env bs s.heap) (k : Keeps s₀ s) : Ok hT X env bs s.heap :=
  ⟨F.kind, hsc, F.top.trans (keeps_grow k), fun a x => let ⟨o, e⟩ := F.xi a x; ⟨o, keeps_grow k a o e⟩⟩
theorem FC.storeL {s₀ : Shared} (_F : FC hT X s₀ env) {x : Str} (h : env.kindOf x = some .local) : StoreAt (PvE env) env x := .inl ⟨h, .inl rfl⟩
theorem FC.storeC {s₀ : Shared} (F : FC hT X s₀ env) {x : Str} {c : Addr} (h : env.kindOf x = some .cell) (hc : env.cells.lookup x = some c) : StoreAt (PvE env) env x :=
  .inr ⟨h, c, hc, .inr ⟨x, hc⟩, fun y c' e ne => F.apart y x c' c e hc ne⟩
theorem st_ret {s₀ : Shared} {e : PySem.Expr} {pos : Pos} {rest : List PySem.Stmt} {d : PyData} (F : FC hT X s₀ env) (he : EV prog w hT A X env bs e d) : ST prog w A X s₀ env bs (.Return (some e) pos :: rest) d := by
  intro s E hsc k
  refine wpAny_execs_cons (wpAny_Return_some (wpAny_mono (he s E (F.ok hsc k)) ?_ fun _ _ e => e))
  rintro v s₁ ⟨k₁, r₁⟩
  exact ⟨v, rfl, keeps_trans k k₁, r₁⟩
end Mine
end
section
open PySem PySem.W PyProof.Rows
namespace Mine
variable {prog : Program} {w : World} {hT : Heap} {A : Around} {X : Addr → Prop} {env : Env} {bs : List (Str × PyData)}
theorem lookup_app {α : Type} (l₁ l₂ : List (Str × α)) (x : Str) : (l₁ ++ l₂).lookup x = (l₁.lookup x).or (l₂.lookup x) := List.lookup_append
theorem bindL_get {kindOf : Str → Option NameKind} : ∀ (binds : List (Str × Value)) (m : Str → Option Value) (x : Str), kindOf x = some .local → bindL kindOf binds m x = (binds.reverse.lookup x).or (m x)
  | [], m, x, _ => by simp [bindL]
  | (n, v) :: r, m, x, hx => by
    unfold bindL
    rw [bindL_get r _ x hx, List.reverse_cons, lookup_app, Option.or_assoc]
    congr 1
    by_cases q : x = n
    · subst q; simp [hx]
    · have : (x == n) = false := beq_eq_false_iff_ne.mpr q
      split <;> simp [List.lookup_cons, this, q]
theorem bindC_get {kindOf : Str → Option NameKind} : ∀ (binds : List (Str × Value)) (m : Str → Option Value) (x : Str), kindOf x ≠ some .local → bindC kindOf binds m x = (binds.reverse.lookup x).or (m x)
  | [], m, x, _ => by simp [bindC]
  | (n, v) :: r, m, x, hx => by
    unfold bindC
    rw [bindC_get r _ x hx, List.reverse_cons, lookup_app, Option.or_assoc]
    congr 1
    by_cases q : x = n
    · subst q; simp [hx]
    · have : (x == n) = false := beq_eq_false_iff_ne.mpr q
      split <;> simp [List.lookup_cons, this, q]
theorem zip_look {h : Heap} : ∀ (ps : List Str) {vals : List Value} {ds : List PyData}, RpL X h vals ds → ∀ x d, (ps.zip ds).reverse.lookup x = some d → ∃ v, (ps.zip vals).reverse.lookup x = some v ∧ Rp X h v d
  | [], _, _, _, x, d, e => by simp at e
  | p :: ps, _, _, .nil, x, d, e => by simp at e
  | p :: ps, v :: vals, d₀ :: ds, .cons r rs, x, d, e => by
    rw [List.zip_cons_cons, List.reverse_cons, lookup_app] at e ⊢
    cases q : (ps.zip ds).reverse.lookup x with
    | some d' =>
      rw [q] at e; cases e
      obtain ⟨u, hu, ru⟩ := zip_look ps rs x _ q
      exact ⟨u, by rw [hu]; rfl, ru⟩
    | none =>
      rw [q] at e
      have hn : (ps.zip vals).reverse.lookup x = none := by
        cases z : (ps.zip vals).reverse.lookup x with
        | none => rfl
        | some u =>
          exfalso
          have hl := rs.length
          have hmem := mem_of_lookup z
          rw [List.mem_reverse] at hmem
          obtain ⟨i, hi, hx⟩ := List.mem_iff_getElem.mp hmem
          have hi' : i < (ps.zip ds).length := by simp at hi ⊢; omega
          have h1 : ((ps.zip ds)[i]).1 = x := by
            have := congrArg Prod.fst hx
            simpa using this
          have hm : (x, ((ps.zip ds)[i]).2) ∈ (ps.zip ds).reverse := by
            rw [List.mem_reverse]
            have h2 := List.getElem_mem hi'
            have h3 : (ps.zip ds)[i] = (x, ((ps.zip ds)[i]).2) := by rw [← h1]
            rw [h3] at h2; exact h2
          have : (ps.zip ds).reverse.lookup x ≠ none := by
            rw [ne_eq, List.lookup_eq_none_iff]
            intro k
            have := k _ hm
            simp at this
          exact this q
      rw [hn]
      have e' : [(p, d₀)].lookup x = some d := e
      refine ⟨v, ?_, ?_⟩
      · show [(p, v)].lookup x = some v
        rw [List.lookup_cons] at e' ⊢
        cases hb : x == p with
        | true => rfl
        | false => rw [hb] at e'; cases e'
      · rw [List.lookup_cons] at e'
        cases hb : x == p with
        | true => rw [hb] at e'; cases e'; exact r
        | false => rw [hb] at e'; cases e'
theorem fc_of {fd : FuncData} {a : Addr} {s s₁ : Shared} {m cm : Str → Option Value} (hk : fd.scope.kind = .function) (hg : fd.globals = mainGlobals) (hb : fd.builtins = builtinsNs) (top : Grow hT s.heap) (xi : XI X s.heap)
    (C : InCallC s (callEnvC fd s.heap.objs.size a).locals m (callEnvC fd s.heap.objs.size a).cells cm s₁) : FC hT X s (callEnvC fd s.heap.objs.size a) where
  kind := hk
  top := top
  xi := xi
  priv := fun b q => by
    rcases q with rfl | ⟨n, q⟩
    · exact none_of_lt (Grow.refl _) C.toInCall.fresh
    · exact none_of_lt (Grow.refl _) (Nat.le_of_lt (Nat.lt_of_le_of_lt C.toInCall.fresh (C.above n b (mem_of_lookup q))))
  glob := hg
  blt := hb
  apart := fun x y c c' e e' ne q => by
    subst q
    exact ne (name_of_addr C.apart (mem_of_lookup e) (mem_of_lookup e'))
theorem call_cellsB {R : Result → Shared → Prop} {s : Shared} {a : Addr} {o : Obj} {fd : FuncData} {body : List PySem.Stmt} {vals : List Value} {binds : List (Str × Value)}
    (hroom : A.depth < recursionLimit) (ho : s.heap.get? a = some o) (hdata : o.data = .func fd) (hlim : s.heap.NoLimit) (hcd : s.heap.CodeRec fd.code fd.qualname)
    (hbody : fd.body = .stmts body) (hbind : BindsTo s fd ⟨vals, []⟩ binds) (hclo : fd.closure = [])
    (hkind : ∀ x ∈ binds, fd.scope.names.lookup x.1 = some .local ∨ (fd.scope.names.lookup x.1 = some .cell ∧ ((cellsFrom (s.heap.objs.size + 1) fd.scope.names []).lookup x.1).isSome = true))
    (h : ∀ s₁, InCallC s (callEnvC fd s.heap.objs.size a).locals (bindL (callEnvC fd s.heap.objs.size a).kindOf binds fun _ => none) (callEnvC fd s.heap.objs.size a).cells
        (bindC (callEnvC fd s.heap.objs.size a).kindOf binds fun _ => none) s₁ →
      wpAny (model prog w) (A.deeper (callEnvC fd s.heap.objs.size a)) (execs body (callEnvC fd s.heap.objs.size a)) (fun f s' => R (.ok (.ret (match f with | .ret v => v | _ => .none))) s')
        (fun e s' => wpAny (model prog w) (A.deeper (callEnvC fd s.heap.objs.size a)) (leaving (callEnvC fd s.heap.objs.size a) e) (fun _ s'' => R (.error e) s'') (fun e' s'' => R (.error e') s'') s') s₁)
    (hco : fd.scope.isCoroutine = false) (hgen : fd.scope.isGenerator = false) (hk : fd.scope.kind = .function) :
    codeAny (model prog w) A (.call (.ref a) ⟨vals, []⟩) R s := by
  refine codeAny_call_function hroom ho hdata hco hgen hbody hcd ?_
  refine hbind _ _ _ _ ?_
  rw [hclo]
  refine wpAny_newFunctionEnv_cells hk hkind fun env he s' x => ?_
  subst he
  exact ⟨hlim.keeps x.toInCall.keep, codeAny_func (h s' x)⟩
/-- a def by its body -/
theorem fn_intro {a : Addr} {o : Obj} {fd : FuncData} {body : List PySem.Stmt} {ps : List Str} {ds : List PyData} {d : PyData} {k : Nat} (ho : hT.get? a = some o) (hdata : o.data = .func fd) (hlim : hT.NoLimit) (hcd : hT.CodeRec fd.code fd.qualname)
    (hbody : fd.body = .stmts body) (hclo : fd.closure = []) (hglob : fd.globals = mainGlobals) (hblt : fd.builtins = builtinsNs)
    (hbind : ∀ (s : Shared) (vals : List Value), Grow hT s.heap → vals.length = ps.length → BindsTo s fd ⟨vals, []⟩ (ps.zip vals))
    (hkind : ∀ n, ∀ x ∈ ps, fd.scope.names.lookup x = some .local ∨ (fd.scope.names.lookup x = some .cell ∧ ((cellsFrom n fd.scope.names []).lookup x).isSome = true)) (hlen : ds.length = ps.length)
    (main : ∀ (A : Around) (X : Addr → Prop) (s₀ : Shared) (L : Addr), ARoom k A → FC hT X s₀ (callEnvC fd L a) → ST prog w A X s₀ (callEnvC fd L a) (ps.zip ds).reverse body d)
    (hco : fd.scope.isCoroutine = false := by rfl) (hgen : fd.scope.isGenerator = false := by rfl) (hk : fd.scope.kind = .function := by rfl) : FN prog w hT a ds d (k + 1) := by
  intro A X s R vals hA top xi hr hR
  have hlv := hr.length
  refine call_cellsB (o := o) (fd := fd) (body := body) (binds := ps.zip vals) (by have := hA.2.1; show A.depth < 1000; omega) (top _ _ ho) hdata (hlim.keeps top) (hcd.keeps top) hbody (hbind s vals top (by omega)) hclo ?_ ?_ hco hgen hk
  · intro x hx
    exact hkind _ x.1 (List.of_mem_zip hx).1
  · intro s₁ C
    have F := fc_of (hT := hT) (X := X) hk hglob hblt top xi C
    have kp : Keeps s s₁ := let ⟨h', tk, e, g⟩ := C.done; ⟨h', tk, e, g⟩
    have g := keeps_grow kp
    refine wpAny_mono (main (A.deeper _) X s s.heap.objs.size (hA.deeper _) F s₁ _ ?_ kp) ?_ fun _ _ e => e
    · refine ⟨_, _, C.toInCall.ns, C.cell, fun x e hx => ?_⟩
      obtain ⟨v, hv, rv⟩ := zip_look ps hr x e hx
      have hm : x ∈ ps := by
        have := mem_of_lookup hv
        rw [List.mem_reverse] at this
        exact (List.of_mem_zip this).1
      refine ⟨v, rv.grow g, ?_⟩
      rcases hkind (s.heap.objs.size + 1) x hm with q | ⟨q, q'⟩
      · refine .inl ⟨q, ?_⟩
        rw [bindL_get _ _ _ q, hv]; rfl
      · obtain ⟨c, hc⟩ := Option.isSome_iff_exists.mp q'
        refine .inr ⟨.inl q, ⟨c, hc⟩, ?_⟩
        rw [bindC_get _ _ _ (by show fd.scope.names.lookup x ≠ _; rw [q]; intro z; cases z), hv]; rfl
    · rintro fl s₂ ⟨v, rfl, k₂, r₂⟩
      exact hR v s₂ k₂ r₂
end Mine
end
section
open PySem PySem.W PyProof.Rows
namespace Mine
variable {prog : Program} {w : World} {hT : Heap} {A : Around} {X : Addr → Prop} {env : Env} {bs : List (Str × PyData)}
/-- range(n) -/
noncomputable def upto (n : Nat) : List PyData := (List.range n).map fun (i : Nat) => PyData.int (i : Int)
theorem sr_range {p pos : Pos} {e : PySem.Expr} {n : Nat} (hh : A.handled = none) (hg : BN hT (Str.ofString "range") (.type "range")) (hx : env.kindOf (Str.ofString "range") = some .globalImplicit) (hgl : env.globals = mainGlobals) (hbl : env.builtins = builtinsNs)
    (he : EV prog w hT A X env bs e (.int (n : Int))) (hsm : Builtin.Range.small 0 n 1 = true) (hsz : Builtin.Range.rangeSize 0 n 1 = n)
    (hne : ∃ x rest, backTo pos (starEach [e] env) = (false, x) :: rest := by exact ⟨_, _, rfl⟩) (hpl : (backTo pos (starEach [e] env)).any (·.1) = false := by rfl) (hst : starEach [e] env = (false, eval e env) :: starEach [] env := by rfl) :
    SR prog w hT A X env bs (.Call (.Name (Str.ofString "range") p) [e] [] pos) (upto n) := by
  intro s E ok
  refine wpAny_Call_Name_kw (nm_builtin hg hx hgl hbl ok ?_ (by decide +kernel))
  refine PySem.callWith_type hpl (args_evl (evl_cons he evl_nil hst) ok hne fun vs s₁ k₁ r₁ => ?_)
  cases r₁ with
  | cons r1 r2 => cases r2; cases r1 with
    | int _ t =>
      refine call_range_1 ?_
      let o := { cls := Value.type "range", data := Data.fields #[.int 0 s₁.toks, .int (n : Int) t, .int 1 (s₁.toks + 1)] : Obj }
      have g₂ : Grow s₁.heap (s₁.heap.push o) := grow_push _ _
      refine wpAny_pyIter_range (s := { s₁ with heap := s₁.heap.push o, toks := s₁.toks + 1 + 1 }) (IsRange.new _ _ _ _ _ _ _) hsm ?_
      have g₃ : Grow (s₁.heap.push o) ((s₁.heap.push o).push { cls := .type "range_iterator", data := .fields #[rawInt 0, rawInt (Builtin.Range.rangeSize 0 n 1), rawInt 1] }) := grow_push _ _
      have hl : (upto n).length = n := by simp [upto]
      refine ⟨_, _, rfl, none_of_lt ((keeps_grow k₁).trans g₂) (Nat.le_refl _), keeps_trans k₁ ⟨_, _, rfl, g₂.trans g₃⟩,
        wkx_made (J := fun i h => IsRangeIter h (s₁.heap.push o).objs.size (0 + (i : Nat) * 1) ((n : Int) - (i : Nat)) 1) (P := fun i v => ∃ t, v = .int (0 + (i : Int) * 1) t) (by rw [hl]; exact Walks.range hh _ 0 1 n) (fun i h q => ⟨_, _, _, q, rfl, rfl, rfl⟩) ?_, ?_⟩
      · rintro i v d hd ⟨u, rfl⟩ X h
        have hi : i < n := by rw [← hl]; exact (List.getElem?_eq_some_iff.mp hd).1
        simp only [upto, List.getElem?_map, List.getElem?_range hi, Option.map_some, Option.some.injEq] at hd
        subst hd
        have : (0 + (i : Int) * 1) = i := by omega
        rw [this]
        exact .int _ _
      · show (s₁.heap.push o |>.push _).get? _ = _
        rw [hsz]
        simp only [Int.ofNat_zero, Int.zero_mul, Int.zero_add, Int.sub_zero]
        exact Heap.get?_push_size _ rfl
theorem ev_len {p pos : Pos} {e : PySem.Expr} {xs : List PyData} (hg : BN hT (Str.ofString "len") (.builtin "len")) (hx : env.kindOf (Str.ofString "len") = some .globalImplicit) (hgl : env.globals = mainGlobals) (hbl : env.builtins = builtinsNs)
    (he : EV prog w hT A X env bs e (.list xs)) (hlen : xs.length ≤ 1000000)
    (hne : ∃ x rest, backTo pos (starEach [e] env) = (false, x) :: rest := by exact ⟨_, _, rfl⟩) (hpl : (backTo pos (starEach [e] env)).any (·.1) = false := by rfl) (hst : starEach [e] env = (false, eval e env) :: starEach [] env := by rfl) :
    EV prog w hT A X env bs (.Call (.Name (Str.ofString "len") p) [e] [] pos) (.int xs.length) := by
  refine ev_builtin hg hx hgl hbl (evl_cons he evl_nil hst) ?_ hne hpl (by decide +kernel)
  intro s E vs xi r
  cases r with
  | cons r1 r2 => cases r2; cases r1 with
    | list e1 n1 r1 =>
      have l1 := r1.length
      simp only [Array.length_toList] at l1
      refine PySem.Calls.call_len_list ⟨_, e1, rfl, _, rfl⟩ (by omega) ⟨keeps_tok _ _, ?_⟩
      rw [l1]; exact .int _ _
/-- statements: they leave with data, or go on with bs' bound -/
noncomputable def SX (prog : Program) (w : World) (A : Around) (X : Addr → Prop) (s₀ : Shared) (env : Env) (bs : List (Str × PyData)) (body : List PySem.Stmt) (bs' : List (Str × PyData)) (out : Option PyData) : Prop :=
  ∀ (s : Shared) (E : Value → Shared → Prop), Sc X env bs s.heap → Keeps s₀ s → wpAny (model prog w) A (execs body env) (fun fl s' => Keeps s₀ s' ∧ Mv (PvE env) s s' ∧ match out with
    | some r => ∃ v, fl = .ret v ∧ Rp X s'.heap v r
    | none => fl = .next ∧ Sc X env bs' s'.heap) E s
theorem SX.st {s₀ : Shared} {body : List PySem.Stmt} {bs' : List (Str × PyData)} {d : PyData} (h : SX prog w A X s₀ env bs body bs' (some d)) : ST prog w A X s₀ env bs body d := by
  intro s E hsc k
  refine wpAny_mono (h s E hsc k) ?_ fun _ _ e => e
  rintro fl s' ⟨k', _, v, e, r⟩
  exact ⟨v, e, k', r⟩
theorem sx_nil {s₀ : Shared} {bs' : List (Str × PyData)} (hw : ∀ x d, bs'.lookup x = some d → bs.lookup x = some d) : SX prog w A X s₀ env bs [] bs' none := fun s _ hsc k =>
  wpAny_execs_nil ⟨k, Mv.of (keeps_refl s), rfl, hsc.weak hw⟩
theorem sx_ret {s₀ : Shared} {e : PySem.Expr} {pos : Pos} {rest : List PySem.Stmt} {bs' : List (Str × PyData)} {d : PyData} (F : FC hT X s₀ env) (he : EV prog w hT A X env bs e d) : SX prog w A X s₀ env bs (.Return (some e) pos :: rest) bs' (some d) := by
  intro s E hsc k
  refine wpAny_execs_cons (wpAny_Return_some (wpAny_mono (he s E (F.ok hsc k)) ?_ fun _ _ e => e))
  rintro v s₁ ⟨k₁, r₁⟩
  exact ⟨keeps_trans k k₁, Mv.of k₁, v, rfl, r₁⟩
theorem sx_assign {s₀ : Shared} {e : PySem.Expr} {x : Str} {p pos : Pos} {rest : List PySem.Stmt} {d' : PyData} {bs' : List (Str × PyData)} {o : Option PyData} (F : FC hT X s₀ env) (he : EV prog w hT A X env bs e d') (hs : StoreAt (PvE env) env x)
    (hr : SX prog w A X s₀ env ((x, d') :: bs) rest bs' o) (hsw : swapsWith e (some (.Name x p)) pos.line env = pure false := by rfl) : SX prog w A X s₀ env bs (.Assign [.Name x p] e pos :: rest) bs' o := by
  intro s E hsc k
  refine wpAny_execs_cons (wpAny_Assign_Name (wpAny_mono (he s E (F.ok hsc k)) ?_ fun _ _ e => e) hsw)
  rintro v s₁ ⟨k₁, r₁⟩
  refine sc_store F.kind (hsc.grow (keeps_grow k₁)) r₁ hs fun s₂ sc₂ mv₂ _ => ?_
  refine wpAny_mono (hr s₂ E sc₂ (mv₂.keeps (keeps_trans k k₁) F.priv)) ?_ fun _ _ e => e
  rintro fl s₃ ⟨k₃, mv₃, h₃⟩
  exact ⟨k₃, (Mv.of k₁).trans (mv₂.trans mv₃), h₃⟩
theorem sx_compA {s₀ : Shared} {elt target iter : PySem.Expr} {scope : Scope} {pos spos py : Pos} {y : Str} {cl : List (Str × Addr)} {cbs : List (Str × PyData)} {ds : List PyData} {tb : PyData → List (Str × PyData)} {f : PyData → PyData}
    {rest : List PySem.Stmt} {bs' : List (Str × PyData)} {o : Option PyData} (F : FC hT X s₀ env) (K : Cmp prog w hT A env bs elt target scope cl cbs ds tb f) (hsrc : SR prog w hT A X env bs iter ds) (hst : StoreAt (PvE env) env y)
    (hr : SX prog w A X s₀ env ((y, .list (ds.map f)) :: bs) rest bs' o)
    (hsw : swapsWith (.ListComp elt [⟨target, iter, [], 0⟩] scope pos) (some (.Name y py)) spos.line env = pure true := by rfl) (hs : ∀ x, foldedSetIterable iter env x = pure x := by intro _; rfl) :
    SX prog w A X s₀ env bs (.Assign [.Name y py] (.ListComp elt [⟨target, iter, [], 0⟩] scope pos) spos :: rest) bs' o := by
  intro s E hsc k
  refine wpAny_execs_cons (st_comp K hsrc (F.ok hsc k) hsw hst (fun s₂ sc₂ mv₂ => ?_) hs)
  refine wpAny_mono (hr s₂ E sc₂ (mv₂.keeps k F.priv)) ?_ fun _ _ e => e
  rintro fl s₃ ⟨k₃, mv₃, h₃⟩
  exact ⟨k₃, mv₂.trans mv₃, h₃⟩
/-- an if without else -/
theorem sx_if {s₀ : Shared} {t : PySem.Expr} {body rest : List PySem.Stmt} {pos : Pos} {c : Bool} {o₁ o : Option PyData} {bs' : List (Str × PyData)} (F : FC hT X s₀ env) (ht : TR prog w hT A X env bs t c) (hb : c = true → SX prog w A X s₀ env bs body bs o₁)
    (hs : c = true → ∀ r, o₁ = some r → o = some r) (hr : (c = false ∨ o₁ = none) → SX prog w A X s₀ env bs rest bs' o) : SX prog w A X s₀ env bs (.If t body [] pos :: rest) bs' o := by
  intro s E hsc k
  refine wpAny_execs_cons (wpAny_If (wpAny_mono (ht s E (F.ok hsc k)) ?_ fun _ _ e => e))
  rintro b s₁ ⟨rfl, k₁⟩
  cases b with
  | true =>
    rw [if_pos rfl]
    refine wpAny_mono (hb rfl s₁ E (hsc.grow (keeps_grow k₁)) (keeps_trans k k₁)) ?_ fun _ _ e => e
    rintro fl s₂ ⟨k₂, mv₂, h₂⟩
    cases ho : o₁ with
    | some r =>
      rw [ho] at h₂
      obtain ⟨v, rfl, rv⟩ := h₂
      exact ⟨k₂, (Mv.of k₁).trans mv₂, by rw [hs rfl r ho]; exact ⟨v, rfl, rv⟩⟩
    | none =>
      rw [ho] at h₂
      obtain ⟨rfl, sc₂⟩ := h₂
      refine wpAny_mono (hr (.inr ho) s₂ E sc₂ k₂) ?_ fun _ _ e => e
      rintro fl s₃ ⟨k₃, mv₃, h₃⟩
      exact ⟨k₃, (Mv.of k₁).trans (mv₂.trans mv₃), h₃⟩
  | false =>
    rw [if_neg (by decide)]
    refine wpAny_execs_nil (wpAny_mono (hr (.inl rfl) s₁ E (hsc.grow (keeps_grow k₁)) (keeps_trans k k₁)) ?_ fun _ _ e => e)
    rintro fl s₃ ⟨k₃, mv₃, h₃⟩
    exact ⟨k₃, (Mv.of k₁).trans mv₃, h₃⟩
/-- a loop that leaves with data, or goes on with the names bs as they were -/
theorem sx_for {s₀ : Shared} {x : Str} {p pos : Pos} {iter : PySem.Expr} {body rest : List PySem.Stmt} {ds : List PyData} {bs' : List (Str × PyData)} {o : Option PyData} (out : Nat → Option PyData) (F : FC hT X s₀ env) (hst : StoreAt (PvE env) env x)
    (hsrc : SR prog w hT A X env bs iter ds)
    (hb : ∀ i e, ds[i]? = some e → SX prog w A X s₀ env ((x, e) :: bs) body bs (out i))
    (hsome : ∀ r, (List.range ds.length).findSome? out = some r → o = some r) (hr : (List.range ds.length).findSome? out = none → SX prog w A X s₀ env bs rest bs' o)
    (hs : ∀ y, foldedSetIterable iter env y = pure y := by intro _; rfl) : SX prog w A X s₀ env bs (.For (.Name x p) iter body [] pos :: rest) bs' o := by
  intro s E hsc k
  have ok := F.ok hsc k
  refine wpAny_execs_cons (wpAny_For (wpAny_mono (hsrc s E ok) (fun xv s₁ h₁ => wpAny_mono h₁ (fun it s₂ h₂ => ?_) fun _ _ e => e) fun _ _ e => e) hs)
  obtain ⟨I, St, rfl, hIn, k₂, W, st⟩ := h₂
  have hPI : ¬ PvE env I := fun q => by
    obtain ⟨m, cm, hn, hc, _⟩ := hsc
    rcases q with rfl | ⟨n, q⟩
    · obtain ⟨o, _, _, e, _⟩ := hn; rw [hIn] at e; cases e
    · obtain ⟨o, e, _⟩ := hc n I q; rw [hIn] at e; cases e
  have hI0 : s₀.heap.get? I = none := by
    cases q : s₀.heap.get? I with
    | none => rfl
    | some o => rw [keeps_grow k _ _ q] at hIn; cases hIn
  refine codeAny_forLoop_any (fun n s' => ∃ i, i ≤ ds.length ∧ n = ds.length + 1 - i ∧ Keeps s₀ s' ∧ St X i s'.heap ∧ Sc X env bs s'.heap ∧ (List.range i).findSome? out = none ∧ Mv (PvE env) s s') ?_ (ds.length + 1)
    ⟨0, Nat.zero_le _, rfl, keeps_trans k k₂, st, hsc.grow (keeps_grow k₂), rfl, Mv.of k₂⟩
  rintro n s' ⟨i, hi, rfl, kp, st, sc, hnone, mvs⟩
  have mvI : ∀ s₅ : Shared, Mv (fun a => a = I) s' s₅ → Mv (PvE env) s s₅ := fun s₅ q => by
    obtain ⟨h, t, rfl, g⟩ := mvs
    obtain ⟨h', t', rfl, g'⟩ := q
    exact ⟨h', t', rfl, fun b o nb e => g' b o (fun z => by subst z; rw [hIn] at e; cases e) (g b o nb e)⟩
  obtain ⟨oI, fs, hI, hIf⟩ := (W.wk X).fields _ _ st
  by_cases hlt : i < ds.length
  · have hd : ds[i]? = some ds[i] := by simp
    refine (W.wk X).item i s' _ _ ds[i] hd st fun v h₁ tk₁ rv st₁ k₁ => ?_
    have c₁ : Calm X s'.heap h₁ := calm_fields hI hIf k₁
    have sc₁ : Sc X env bs h₁ := sc.but hI (fun _ _ q => by rw [hIf] at q; cases q) (fun _ q => by rw [hIf] at q; cases q) c₁ k₁
    have mv₁ : Mv (fun a => a = I) s' { s' with heap := h₁, toks := tk₁ } := ⟨h₁, tk₁, rfl, k₁⟩
    have kp₁ := mv₁.keeps kp fun a q => by subst q; exact hI0
    refine (W.wk X).owns _ _ _ _ _ _ st₁ ?_
    refine assign_name (Pv := PvE env) F.kind sc₁ rv hst fun s₂ sc₂ mv₂ c₂ => ?_
    have kp₂ := mv₂.keeps kp₁ F.priv
    have st₂ := (W.wk X).frame _ _ _ st₁ c₂ fun o e => mv₂.get I o hPI e
    refine wpAny_mono (hb i _ hd s₂ _ sc₂ kp₂) ?_ fun _ _ e => e
    rintro fl s₃ ⟨kp₃, mv₃, h₃⟩
    cases ho : out i with
    | some r =>
      rw [ho] at h₃
      obtain ⟨v', rfl, rv'⟩ := h₃
      have : (List.range ds.length).findSome? out = some r := by
        have e1 : List.range ds.length = List.range i ++ (i :: (List.range (ds.length - i - 1)).map (i + 1 + ·)) := by
          have : ds.length = i + (1 + (ds.length - i - 1)) := by omega
          rw [this, List.range_add, List.range_add]
          simp [List.map_map, Function.comp_def, Nat.add_assoc]
        rw [e1, List.findSome?_append, hnone, List.findSome?_cons, ho]; rfl
      exact ⟨kp₃, (mvI _ mv₁).trans (mv₂.trans mv₃), by rw [hsome r this]; exact ⟨v', rfl, rv'⟩⟩
    | none =>
      rw [ho] at h₃
      obtain ⟨hfl, sc₃⟩ := h₃
      have nxt : ∃ m, m < ds.length + 1 - i ∧ ∃ j, j ≤ ds.length ∧ m = ds.length + 1 - j ∧ Keeps s₀ s₃ ∧ St X j s₃.heap ∧ Sc X env bs s₃.heap ∧ (List.range j).findSome? out = none ∧ Mv (PvE env) s s₃ := by
        refine ⟨ds.length + 1 - (i + 1), by omega, i + 1, hlt, rfl, kp₃, ?_, sc₃, ?_, (mvI _ mv₁).trans (mv₂.trans mv₃)⟩
        · refine (W.wk X).frame _ _ _ st₂ (fun a o vs n na hq e => ?_) fun o e => mv₃.get I o hPI e
          refine mv₃.get a o (fun q => ?_) e
          obtain ⟨m, cm, hn, hc, _⟩ := sc₂
          rcases q with rfl | ⟨n', q⟩
          · obtain ⟨o', _, _, e', hd', _⟩ := hn; rw [e] at e'; cases e'; rw [hq] at hd'; cases hd'
          · obtain ⟨o', e', hd'⟩ := hc n' a q; rw [e] at e'; cases e'; rw [hq] at hd'; cases hd'
        · rw [List.range_succ, List.findSome?_append, hnone]
          simp [ho]
      subst hfl; exact nxt
  · have hi' : i = ds.length := by omega
    subst hi'
    refine (W.wk X).done s' _ _ st fun h₁ tk₁ k₁ => ?_
    have c₁ : Calm X s'.heap h₁ := calm_fields hI hIf k₁
    have sc₁ : Sc X env bs h₁ := sc.but hI (fun _ _ q => by rw [hIf] at q; cases q) (fun _ q => by rw [hIf] at q; cases q) c₁ k₁
    have mv₁ : Mv (fun a => a = I) s' { s' with heap := h₁, toks := tk₁ } := ⟨h₁, tk₁, rfl, k₁⟩
    refine wpAny_execs_nil ?_
    refine wpAny_mono (hr hnone _ E sc₁ (mv₁.keeps kp fun a q => by subst q; exact hI0)) ?_ fun _ _ e => e
    rintro fl s₃ ⟨kp₃, mv₃, h₃⟩
    exact ⟨kp₃, (mvI _ mv₁).trans mv₃, h₃⟩
end Mine
end
section
open PySem PySem.W PyProof.Rows
namespace Mine
variable {prog : Program} {w : World} {hT : Heap} {A : Around} {X : Addr → Prop} {env : Env} {bs : List (Str × PyData)}
theorem asg_local {scope : Scope} {cl : List (Str × Addr)} {C : Addr} {Y : Addr → Prop} {cbs : List (Str × PyData)} {x : Str} {pos : Pos} {d : PyData} (hf : scope.kind = .function) (hk : (cEnv scope cl C env).kindOf x = some .local) :
    Asg prog w A Y (fun a => C ≤ a) (cEnv scope cl C env) cbs (.Name x pos) d ((x, d) :: cbs) := fun _ _ _ _ sc r h => assign_name (Pv := fun a => C ≤ a) (env := cEnv scope cl C env) hf sc r (.inl ⟨hk, Nat.le_refl _⟩) h
theorem asg_cell {scope : Scope} {cl : List (Str × Addr)} {C : Addr} {Y : Addr → Prop} {cbs : List (Str × PyData)} {x : Str} {pos : Pos} {d : PyData} (hf : scope.kind = .function) (hk : (cEnv scope cl C env).kindOf x = some .cell)
    (hc : (cEnv scope cl C env).cells = (x, C + 1) :: cl) (hcl : CL cl C) :
    Asg prog w A Y (fun a => C ≤ a) (cEnv scope cl C env) cbs (.Name x pos) d ((x, d) :: cbs) := fun _ _ _ _ sc r h => by
  refine assign_name (Pv := fun a => C ≤ a) (env := cEnv scope cl C env) hf sc r (.inr ⟨hk, C + 1, ?_, Nat.le_succ _, fun y c' e ne q => ?_⟩) h
  · rw [hc]; simp
  · subst q
    rw [hc, List.lookup_cons, beq_eq_false_iff_ne.mpr ne] at e
    exact absurd (hcl y _ e) (Nat.not_lt.mpr (Nat.le_succ C))
theorem asg_tup {scope : Scope} {cl : List (Str × Addr)} {C : Addr} {Y : Addr → Prop} {cbs : List (Str × PyData)} {elts : List PySem.Expr} {k : Nat} {pos : Pos} (xs : List (Str × Pos)) {ds : List PyData} (hh : A.handled = none) (hf : scope.kind = .function)
    (hl : xs.length = ds.length) (he : (assignEach elts (cEnv scope cl C env)).map (·.2) = xs.map fun x => assign (.Name x.1 x.2) (cEnv scope cl C env)) (hst : (assignEach elts (cEnv scope cl C env)).findIdx? (·.1) = none)
    (hk : ∀ x ∈ xs, (cEnv scope cl C env).kindOf x.1 = some .local) :
    Asg prog w A Y (fun a => C ≤ a) (cEnv scope cl C env) cbs (.Tuple elts k pos) (.tuple ds) (tbNames (xs.map (·.1)) ds cbs) := fun _ _ _ _ sc r h =>
  assign_tuple (Pv := fun a => C ≤ a) (env := cEnv scope cl C env) xs hh hf sc r hl he hst (fun x hx => .inl ⟨hk x hx, Nat.le_refl _⟩) h
theorem by_mem {P : Str → PyData → Prop} {cbs : List (Str × PyData)} (h : ∀ p ∈ cbs, P p.1 p.2) : ∀ x d, cbs.lookup x = some d → P x d := fun x d e => h (x, d) (PySem.mem_of_lookup e)
theorem weak_cons {x : Str} {d : PyData} {cbs : List (Str × PyData)} (h : cbs.lookup x = none) : ∀ y e, cbs.lookup y = some e → ((x, d) :: cbs).lookup y = some e := fun y e q => by
  rw [List.lookup_cons]
  cases hb : y == x with
  | false => exact q
  | true => rw [beq_iff_eq.mp hb, h] at q; cases q
/-- slices of any list -/
noncomputable def pk {α : Type} (l : List α) (a b c : Option Int) : List α := (sliceRange (sliceBounds a b c l.length).1 (sliceBounds a b c l.length).2.1 (sliceBounds a b c l.length).2.2).filterMap (l[·]?)
theorem pick_map {α : Type} (g : α → PyData) (l : List α) (a b c : Option Int) : pick (l.map g) a b c = (pk l a b c).map g := by
  unfold pick pk
  rw [List.length_map, List.map_filterMap]
  congr 1
  funext i
  rw [List.getElem?_map]
noncomputable def lst (l : List Int) : PyData := .list (l.map .int)
noncomputable def lsts (r : List (List Int)) : PyData := .list (r.map lst)
theorem canAll_ints : ∀ l : List Int, PyData.canLayAll0 (l.map PyData.int) = true
  | [] => rfl
  | a :: l => by
    show (PyData.canLay0 (.int a) && PyData.canLayAll0 (l.map PyData.int)) = true
    rw [canAll_ints l]; rfl
theorem depthAll_ints : ∀ l : List Int, PyData.depthAll (l.map PyData.int) ≤ 1
  | [] => by simp [PyData.depthAll]
  | a :: l => by
    have := depthAll_ints l
    simp only [List.map_cons, PyData.depthAll, PyData.depth]
    omega
theorem shaped_lst (l : List Int) : SeqAt.shaped (lst l) = true := by
  unfold SeqAt.shaped lst
  have := depthAll_ints l
  simp only [Bool.and_eq_true, decide_eq_true_eq]
  exact ⟨canAll_ints l, by simp only [PyData.depth]; omega⟩
theorem canAll_lsts : ∀ r : List (List Int), PyData.canLayAll0 (r.map lst) = true
  | [] => rfl
  | a :: l => by
    show (PyData.canLay0 (lst a) && PyData.canLayAll0 (l.map lst)) = true
    rw [canAll_lsts l, show PyData.canLay0 (lst a) = true from canAll_ints a]; rfl
theorem depthAll_lsts : ∀ l : List (List Int), PyData.depthAll (l.map lst) ≤ 2
  | [] => by simp [PyData.depthAll]
  | a :: l => by
    have := depthAll_lsts l
    have h2 := depthAll_ints a
    simp only [List.map_cons, PyData.depthAll]
    have h3 : (lst a).depth ≤ 2 := by unfold lst; simp only [PyData.depth]; omega
    omega
theorem shaped_lsts (l : List (List Int)) : SeqAt.shaped (lsts l) = true := by
  unfold SeqAt.shaped lsts
  have := depthAll_lsts l
  simp only [Bool.and_eq_true, decide_eq_true_eq]
  exact ⟨canAll_lsts l, by simp only [PyData.depth]; omega⟩
theorem eqvAll_ints : ∀ a b : List Int, PyData.eqvAll (a.map PyData.int) (b.map PyData.int) = (a == b)
  | [], [] => by simp [PyData.eqvAll]
  | [], _ :: _ => by simp [PyData.eqvAll]
  | _ :: _, [] => by simp [PyData.eqvAll]
  | x :: a, y :: b => by
    have := eqvAll_ints a b
    simp only [List.map_cons, PyData.eqvAll, PyData.eqv, this]
    rfl
theorem eqv_lst (a b : List Int) : PyData.eqv (lst a) (lst b) = (a == b) := by
  unfold lst
  simp only [PyData.eqv, eqvAll_ints]
theorem eqvAll_lsts : ∀ a b : List (List Int), PyData.eqvAll (a.map lst) (b.map lst) = (a == b)
  | [], [] => by simp [PyData.eqvAll]
  | [], _ :: _ => by simp [PyData.eqvAll]
  | _ :: _, [] => by simp [PyData.eqvAll]
  | x :: a, y :: b => by
    have := eqvAll_lsts a b
    simp only [List.map_cons, PyData.eqvAll, eqv_lst, this]
    rfl
theorem eqv_lsts (a b : List (List Int)) : PyData.eqv (lsts a) (lsts b) = (a == b) := by
  unfold lsts
  simp only [PyData.eqv, eqvAll_lsts]
theorem any_lst (r : List (List Int)) (l : List Int) : ((r.map lst).any fun y => PyData.eqv y (lst l)) = r.contains l := by
  induction r with
  | nil => rfl
  | cons a r ih =>
    rw [List.map_cons, List.any_cons, ih, eqv_lst, List.contains_cons]
    congr 1
    rw [Bool.eq_iff_iff, beq_iff_eq, beq_iff_eq]; exact eq_comm
end Mine
end
section
open PySem PySem.W PyProof.Rows
namespace Mine
variable {prog : Program} {w : World} {hT : Heap} {A : Around} {X : Addr → Prop} {env : Env} {bs : List (Str × PyData)}
theorem compTurn_l2in (elt target iter t0 i0 : PySem.Expr) (scope : Scope) (pos : Pos) (it acc : Value) (env : Env) :
    compTurn (.ListComp elt [⟨t0, i0, [], 0⟩, ⟨target, iter, [], 0⟩] scope pos) 1 it acc env = (standAt iter.pos >>= fun _ => pyNext it >>= fun r => match r with
      | none => pure (.done .next)
      | some v => letOwnedTupleGo target it v >>= fun _ => assign target env v >>= fun _ =>
        (eval elt env >>= fun x => call (.builtin "list.append") [acc, x] >>= fun _ => pure ()) >>= fun _ =>
          again (.compLoop (.ListComp elt [⟨t0, i0, [], 0⟩, ⟨target, iter, [], 0⟩] scope pos) 1 it acc env)) := by rfl
theorem compTurn_l2out (elt target iter t0 i0 : PySem.Expr) (scope : Scope) (pos : Pos) (it acc : Value) (env : Env) :
    compTurn (.ListComp elt [⟨t0, i0, [], 0⟩, ⟨target, iter, [], 0⟩] scope pos) 0 it acc env = (standAt i0.pos >>= fun _ => pyNext it >>= fun r => match r with
      | none => pure (.done .next)
      | some v => letOwnedTupleGo t0 it v >>= fun _ => assign t0 env v >>= fun _ =>
        (eval iter env >>= fun x => standAt iter.pos >>= fun _ => foldedSetIterable iter env x >>= fun x => holding [x] (pyIter x) >>= fun it2 => runOwn (.compStart (.ListComp elt [⟨t0, i0, [], 0⟩, ⟨target, iter, [], 0⟩] scope pos) 1 it2 acc env) env >>= fun _ =>
          again (.compLoop (.ListComp elt [⟨t0, i0, [], 0⟩, ⟨target, iter, [], 0⟩] scope pos) 0 it acc env))) := by rfl
theorem compStart_in {elt target iter t0 i0 : PySem.Expr} {scope : Scope} {pos : Pos} {it acc : Value} {R : Result → Shared → Prop} {s : Shared}
    (h0 : codeAny (model prog w) A (.compLoop (.ListComp elt [⟨t0, i0, [], 0⟩, ⟨target, iter, [], 0⟩] scope pos) 1 it acc env) R s)
    (h : wpAny (model prog w) A (pyIter it) (fun it' s' => codeAny (model prog w) A (.compLoop (.ListComp elt [⟨t0, i0, [], 0⟩, ⟨target, iter, [], 0⟩] scope pos) 1 it' acc env) R s') (notedBy (model prog w) A env fun x s' => R (.error x) s') s) :
    codeAny (model prog w) A (.compStart (.ListComp elt [⟨t0, i0, [], 0⟩, ⟨target, iter, [], 0⟩] scope pos) 1 it acc env) R s := by
  refine codeAny_of_tree ?_
  show wpAny _ _ ((compStart (.ListComp elt [⟨t0, i0, [], 0⟩, ⟨target, iter, [], 0⟩] scope pos) 1 it acc env).onRaise (fun x => do noteFrame x env; standAt theWindowsPlace)) _ _ s
  refine wpAny_notedAt ?_
  unfold compStart
  show wpAny _ _ (ask >>= _) _ _ s
  refine wpAny_bind (wpAny_askSetting (wpAny_ite ?_))
  split
  · first
      | exact wpAny_bind (wpAny_pure (wpAny_pure (And.intro rfl h0)))
      | exact wpAny_pure (And.intro rfl h0)
  · refine wpAny_bind (wpAny_rule ?_)
    show wpAny _ _ (standAt iter.pos >>= _) _ _ s
    exact wpAny_bind (wpAny_standAt (wpAny_bind (wpAny_mono h (fun it' s' h' => wpAny_pure (And.intro rfl h')) fun _ _ x => x)))
theorem comp_loop_in {elt target iter t0 i0 : PySem.Expr} {scope : Scope} {pos : Pos} {I D : Addr} {cenv : Env} {cbs : List (Str × PyData)} {ds : List PyData} {St : (Addr → Prop) → Nat → Heap → Prop} {Pv : Addr → Prop}
    {tb : PyData → List (Str × PyData)} {f : PyData → PyData} {pre : List PyData} {R : Result → Shared → Prop} {s sb : Shared}
    (hk : cenv.scope.kind = .function) (W : WkX prog w A I ds St) (hDI : D ≠ I) (hPD : ¬ Pv D) (hPI : ¬ Pv I) (hbase : ∀ a, (Pv a ∨ a = D ∨ a = I) → sb.heap.get? a = none) (htop : Grow hT sb.heap) (hxi : XI X sb.heap) (hlen : ds.length ≤ 1000000)
    (hasg : ∀ d ∈ ds, Asg prog w A (XD X D) Pv cenv cbs target d (tb d)) (hwk : ∀ d ∈ ds, ∀ x e, cbs.lookup x = some e → (tb d).lookup x = some e)
    (helt : ∀ d ∈ ds, EV prog w hT A (XD X D) cenv (tb d) elt (f d))
    (hst : St (XD X D) 0 s.heap) (hpre : pre.length ≤ 1000000) (hacc : ∃ ys n, s.heap.get? D = some { cls := .type "list", data := .seq ys n } ∧ RpL (XD X D) s.heap ys.toList pre) (hsc : Sc (XD X D) cenv cbs s.heap) (hkp : Keeps sb s)
    (hR : ∀ s' ys n, Keeps sb s' → s'.heap.get? D = some { cls := .type "list", data := .seq ys n } → RpL (XD X D) s'.heap ys.toList (pre ++ ds.map f) → Sc (XD X D) cenv cbs s'.heap → Mv (fun a => Pv a ∨ a = D ∨ a = I) s s' → R (.ok .next) s') :
    codeAny (model prog w) A (.compLoop (.ListComp elt [⟨t0, i0, [], 0⟩, ⟨target, iter, [], 0⟩] scope pos) 1 (.ref I) (.ref D) cenv) R s := by
  have hXb : ∀ a, (XD X D) a → ∀ s' : Shared, Keeps sb s' → (∃ o, s'.heap.get? D = some o) → ∃ o, s'.heap.get? a = some o := fun a ha s' k hd => by
    rcases ha with ha | rfl
    · obtain ⟨o, e⟩ := hxi a ha; exact ⟨o, keeps_grow k a o e⟩
    · exact hd
  refine codeAny_loop rfl (fun n s' => ∃ k ys e, k ≤ ds.length ∧ n = ds.length + 1 - k ∧ Keeps sb s' ∧ St (XD X D) k s'.heap ∧ s'.heap.get? D = some { cls := .type "list", data := .seq ys e } ∧
    RpL (XD X D) s'.heap ys.toList (pre ++ (ds.take k).map f) ∧ Sc (XD X D) cenv cbs s'.heap ∧ Mv (fun a => Pv a ∨ a = D ∨ a = I) s s') ?_ (ds.length + 1) ?_
  · rintro n s₀ ⟨k, ys, ep, hkl, rfl, kp, st, hD, rD, sc, mvs⟩
    show wpAny _ _ ((compTurn (.ListComp elt [⟨t0, i0, [], 0⟩, ⟨target, iter, [], 0⟩] scope pos) 1 (.ref I) (.ref D) cenv).onRaise (fun x => do noteFrame x cenv; theTreesLotGoes x)) _ _ s₀
    refine wpAny_noted ?_
    rw [compTurn_l2in]
    refine wpAny_bind (wpAny_standAt (wpAny_bind ?_))
    obtain ⟨oI, fs, hI, hIf⟩ := (W.wk (XD X D)).fields _ _ st
    by_cases hlt : k < ds.length
    · have hd : ds[k]? = some ds[k] := by simp
      have hm : ds[k] ∈ ds := List.getElem_mem _
      refine (W.wk (XD X D)).item k s₀ _ _ ds[k] hd st fun v h₁ tk₁ rv st₁ k₁ => ?_
      have c₁ : Calm (XD X D) s₀.heap h₁ := calm_fields hI hIf k₁
      have sc₁ : Sc (XD X D) cenv cbs h₁ := sc.but hI (fun _ _ q => by rw [hIf] at q; cases q) (fun _ q => by rw [hIf] at q; cases q) c₁ k₁
      have hD₁ := k₁ D _ hDI hD
      have mv₁ : Mv (fun a => a = I) s₀ { s₀ with heap := h₁, toks := tk₁ } := ⟨h₁, tk₁, rfl, k₁⟩
      have kp₁ := mv₁.keeps kp fun a q => hbase a (.inr (.inr q))
      refine wpAny_bind ((W.wk (XD X D)).owns _ _ _ _ _ _ st₁ ?_)
      refine wpAny_bind (hasg _ hm { s₀ with heap := h₁, toks := tk₁ } v _ _ sc₁ rv fun s₂ sc₂ mv₂ c₂ => ?_)
      have hD₂ := mv₂.get D _ hPD hD₁
      have kp₂ := mv₂.keeps kp₁ fun a q => hbase a (.inl q)
      have st₂ := (W.wk (XD X D)).frame _ _ _ st₁ c₂ fun o e => mv₂.get I o hPI e
      have ok₂ : Ok hT (XD X D) cenv (tb ds[k]) s₂.heap := ⟨hk, sc₂, htop.trans (keeps_grow kp₂), fun a ha => hXb a ha s₂ kp₂ ⟨_, hD₂⟩⟩
      refine wpAny_bind (wpAny_bind (wpAny_mono (helt _ hm s₂ _ ok₂) ?_ fun _ _ e => e))
      rintro y s₃ ⟨k₃, ry⟩
      have g₃ := keeps_grow k₃
      have hD₃ := g₃ D _ hD₂
      have kp₃ := keeps_trans kp₂ k₃
      have st₃ := (W.wk (XD X D)).frame _ _ _ st₂ (calm_grow g₃) fun o e => g₃ I o e
      have l1 := rD.length
      simp only [Array.length_toList, List.length_append, List.length_map, List.length_take] at l1
      have hys : ys.size ≤ pre.length + ds.length := by omega
      refine wpAny_bind (wpAny_list_append_plain (hsz := by show _ ≤ 2 ^ 24; omega) ⟨_, hD₃⟩ fun h₄ ⟨n₄, hD₄⟩ sb₄ => ?_)
      have c₄ : Calm (XD X D) s₃.heap h₄ := fun a o vs n na _ e => sb₄.extBut a o (fun q => na (.inr q)) e
      have mv₄ : Mv (fun a => a = D) s₃ { s₃ with heap := h₄ } := ⟨h₄, s₃.toks, rfl, fun b o nb e => sb₄.extBut b o nb e⟩
      have sc₃ : Sc (XD X D) cenv cbs s₃.heap := (sc₂.grow g₃).weak (hwk _ hm)
      have sc₄ : Sc (XD X D) cenv cbs h₄ := sc₃.but hD₃ (fun _ _ q => by cases q) (fun _ q => by cases q) c₄ fun b o nb e => sb₄.extBut b o nb e
      refine wpAny_pure (wpAny_pure ⟨rfl, ds.length + 1 - (k + 1), by omega, k + 1, ys.push y, n₄, hlt, rfl, mv₄.keeps kp₃ fun a q => hbase a (.inr (.inl q)), (W.wk (XD X D)).frame _ _ _ st₃ c₄ (fun o e => sb₄.extBut I o (Ne.symm hDI) e), hD₄, ?_, sc₄, mvs.trans ((mv₁.more fun _ q => .inr (.inr q)).trans ((mv₂.more fun _ q => .inl q).trans ((Mv.of k₃).trans (mv₄.more fun _ q => .inr (.inl q)))))⟩)
      have rys : RpL (XD X D) h₄ ys.toList (pre ++ (ds.take k).map f) := (((rD.calm c₁).calm c₂).grow g₃).calm c₄
      rw [Array.toList_push, List.take_add_one, hd, List.map_append, ← List.append_assoc]
      exact rys.append (.cons (ry.calm c₄) .nil)
    · have hk' : k = ds.length := by omega
      subst hk'
      refine (W.wk (XD X D)).done s₀ _ _ st fun h₁ tk₁ k₁ => ?_
      have c₁ : Calm (XD X D) s₀.heap h₁ := calm_fields hI hIf k₁
      have mv₁ : Mv (fun a => a = I) s₀ { s₀ with heap := h₁, toks := tk₁ } := ⟨h₁, tk₁, rfl, k₁⟩
      refine wpAny_pure (hR _ ys ep (mv₁.keeps kp fun a q => hbase a (.inr (.inr q))) (k₁ D _ hDI hD) ?_ (sc.but hI (fun _ _ q => by rw [hIf] at q; cases q) (fun _ q => by rw [hIf] at q; cases q) c₁ k₁) (mvs.trans (mv₁.more fun _ q => .inr (.inr q))))
      have := rD.calm c₁
      rwa [List.take_length] at this
  · obtain ⟨ys, n, hD, hr⟩ := hacc
    exact ⟨0, ys, n, Nat.zero_le _, rfl, hkp, hst, hD, by simpa using hr, hsc, Mv.of (keeps_refl s)⟩
theorem comp_loop_out {elt target iter t0 i0 : PySem.Expr} {scope : Scope} {pos : Pos} {I D C : Addr} {cenv : Env} {cbs : List (Str × PyData)} {ds ds2 : List PyData} {St : (Addr → Prop) → Nat → Heap → Prop}
    {tb0 : PyData → List (Str × PyData)} {tb1 : PyData → PyData → List (Str × PyData)} {f : PyData → PyData → PyData} {R : Result → Shared → Prop} {s sb : Shared}
    (hk : cenv.scope.kind = .function) (hCl : cenv.locals = C) (W : WkX prog w A I ds St) (hDI : D ≠ I) (hDC : D ≠ C) (hIC : I ≠ C) (hbase : ∀ a, (a = C ∨ a = D ∨ a = I) → sb.heap.get? a = none) (htop : Grow hT sb.heap) (hxi : XI X sb.heap)
    (hlen : ds.length * ds2.length ≤ 1000000) (hlen2 : ds2.length ≤ 1000000)
    (hasg0 : ∀ d ∈ ds, Asg prog w A (XD X D) (fun a => a = C) cenv cbs t0 d (tb0 d)) (hwk0 : ∀ d ∈ ds, ∀ x e, cbs.lookup x = some e → (tb0 d).lookup x = some e)
    (hsrc : ∀ d ∈ ds, SR prog w hT A (XD X D) cenv (tb0 d) iter ds2)
    (hasg1 : ∀ d ∈ ds, ∀ e ∈ ds2, Asg prog w A (XD X D) (fun a => a = C) cenv (tb0 d) target e (tb1 d e)) (hwk1 : ∀ d ∈ ds, ∀ e ∈ ds2, ∀ x u, (tb0 d).lookup x = some u → (tb1 d e).lookup x = some u)
    (helt : ∀ d ∈ ds, ∀ e ∈ ds2, EV prog w hT A (XD X D) cenv (tb1 d e) elt (f d e)) (hfs : ∀ x, foldedSetIterable iter cenv x = pure x)
    (hst : St (XD X D) 0 s.heap) (hacc : ∃ n, s.heap.get? D = some { cls := .type "list", data := .seq #[] n }) (hsc : Sc (XD X D) cenv cbs s.heap) (hkp : Keeps sb s)
    (hR : ∀ s' ys n, Keeps sb s' → s'.heap.get? D = some { cls := .type "list", data := .seq ys n } → RpL (XD X D) s'.heap ys.toList (ds.flatMap fun d => ds2.map (f d)) → Sc (XD X D) cenv cbs s'.heap → R (.ok .next) s') :
    codeAny (model prog w) A (.compLoop (.ListComp elt [⟨t0, i0, [], 0⟩, ⟨target, iter, [], 0⟩] scope pos) 0 (.ref I) (.ref D) cenv) R s := by
  have hXb : ∀ a, (XD X D) a → ∀ s' : Shared, Keeps sb s' → (∃ o, s'.heap.get? D = some o) → ∃ o, s'.heap.get? a = some o := fun a ha s' k hd => by
    rcases ha with ha | rfl
    · obtain ⟨o, e⟩ := hxi a ha; exact ⟨o, keeps_grow k a o e⟩
    · exact hd
  refine codeAny_loop rfl (fun n s' => ∃ k ys e, k ≤ ds.length ∧ n = ds.length + 1 - k ∧ Keeps sb s' ∧ St (XD X D) k s'.heap ∧ s'.heap.get? D = some { cls := .type "list", data := .seq ys e } ∧
    RpL (XD X D) s'.heap ys.toList ((ds.take k).flatMap fun d => ds2.map (f d)) ∧ Sc (XD X D) cenv cbs s'.heap) ?_ (ds.length + 1) ?_
  · rintro n s₀ ⟨k, ys, ep, hkl, rfl, kp, st, hD, rD, sc⟩
    show wpAny _ _ ((compTurn (.ListComp elt [⟨t0, i0, [], 0⟩, ⟨target, iter, [], 0⟩] scope pos) 0 (.ref I) (.ref D) cenv).onRaise (fun x => do noteFrame x cenv; theTreesLotGoes x)) _ _ s₀
    refine wpAny_noted ?_
    rw [compTurn_l2out]
    refine wpAny_bind (wpAny_standAt (wpAny_bind ?_))
    obtain ⟨oI, fs, hI, hIf⟩ := (W.wk (XD X D)).fields _ _ st
    by_cases hlt : k < ds.length
    · have hd : ds[k]? = some ds[k] := by simp
      have hm : ds[k] ∈ ds := List.getElem_mem _
      refine (W.wk (XD X D)).item k s₀ _ _ ds[k] hd st fun v h₁ tk₁ rv st₁ k₁ => ?_
      have c₁ : Calm (XD X D) s₀.heap h₁ := calm_fields hI hIf k₁
      have sc₁ : Sc (XD X D) cenv cbs h₁ := sc.but hI (fun _ _ q => by rw [hIf] at q; cases q) (fun _ q => by rw [hIf] at q; cases q) c₁ k₁
      have hD₁ := k₁ D _ hDI hD
      have mv₁ : Mv (fun a => a = I) s₀ { s₀ with heap := h₁, toks := tk₁ } := ⟨h₁, tk₁, rfl, k₁⟩
      have kp₁ := mv₁.keeps kp fun a q => hbase a (.inr (.inr q))
      refine wpAny_bind ((W.wk (XD X D)).owns _ _ _ _ _ _ st₁ ?_)
      refine wpAny_bind (hasg0 _ hm { s₀ with heap := h₁, toks := tk₁ } v _ _ sc₁ rv fun s₂ sc₂ mv₂ c₂ => ?_)
      have hD₂ := mv₂.get D _ hDC hD₁
      have kp₂ := mv₂.keeps kp₁ fun a q => hbase a (.inl q)
      have st₂ := (W.wk (XD X D)).frame _ _ _ st₁ c₂ fun o e => mv₂.get I o hIC e
      have ok₂ : Ok hT (XD X D) cenv (tb0 ds[k]) s₂.heap := ⟨hk, sc₂, htop.trans (keeps_grow kp₂), fun a ha => hXb a ha s₂ kp₂ ⟨_, hD₂⟩⟩
      refine wpAny_bind (wpAny_mono (hsrc _ hm s₂ _ ok₂) (fun xv s₃ h₃ => wpAny_bind (wpAny_standAt (wpAny_bind (wpAny_of_eq (hfs xv) (wpAny_bind (wpAny_holding (wpAny_mono h₃ (fun it s₄ h₄ => ?_) fun _ _ e => e))))))) fun _ _ e => e)
      obtain ⟨I2, St2, rfl, hI2n, k₄, W2, st2⟩ := h₄
      have g₄ := keeps_grow k₄
      have kp₄ := keeps_trans kp₂ k₄
      have hD₄ := g₄ D _ hD₂
      have hI2s : sb.heap.get? I2 = none := by
        cases q : sb.heap.get? I2 with
        | none => rfl
        | some o => rw [keeps_grow kp₂ _ _ q] at hI2n; cases hI2n
      have hC₂ : ∃ o, s₂.heap.get? C = some o := by
        obtain ⟨m, _, hn, _⟩ := sc₂
        obtain ⟨o, _, _, e, _⟩ := hn
        exact ⟨o, hCl ▸ e⟩
      have hne : ∀ a, (∃ o, s₂.heap.get? a = some o) → a ≠ I2 := fun a ⟨o, e⟩ q => by subst q; rw [hI2n] at e; cases e
      have hl1 := rD.length
      have hlf : ((ds.take k).flatMap fun d => ds2.map (f d)).length = k * ds2.length := by
        have : ∀ l : List PyData, (l.flatMap fun d => ds2.map (f d)).length = l.length * ds2.length := fun l => by
          induction l with
          | nil => simp
          | cons a l ih => rw [List.flatMap_cons, List.length_append, ih, List.length_map, List.length_cons, Nat.succ_mul, Nat.add_comm]
        rw [this, List.length_take, Nat.min_eq_left hkl]
      have loop : ∀ sx : Shared, sx = s₄ → codeAny (model prog w) A (.compLoop (.ListComp elt [⟨t0, i0, [], 0⟩, ⟨target, iter, [], 0⟩] scope pos) 1 (.ref I2) (.ref D) cenv)
          (fun r s' => match r with
            | .ok fl => wpAny (model prog w) A (again (.compLoop (.ListComp elt [⟨t0, i0, [], 0⟩, ⟨target, iter, [], 0⟩] scope pos) 0 (.ref I) (.ref D) cenv)) (fun fin s' => match fin with
              | .done f => R (.ok f) s'
              | .again c' => c' = .compLoop (.ListComp elt [⟨t0, i0, [], 0⟩, ⟨target, iter, [], 0⟩] scope pos) 0 (.ref I) (.ref D) cenv ∧ ∃ m, m < ds.length + 1 - k ∧ ∃ k ys e, k ≤ ds.length ∧ m = ds.length + 1 - k ∧ Keeps sb s' ∧ St (XD X D) k s'.heap ∧ s'.heap.get? D = some { cls := .type "list", data := .seq ys e } ∧
                RpL (XD X D) s'.heap ys.toList ((ds.take k).flatMap fun d => ds2.map (f d)) ∧ Sc (XD X D) cenv cbs s'.heap) (notedBy (model prog w) A cenv fun e s' => R (.error e) s') s'
            | .error e => cameBackBy (model prog w) A cenv (notedBy (model prog w) A cenv fun e s' => R (.error e) s') e s') sx := by
        rintro sx rfl
        refine comp_loop_in (hT := hT) (X := X) (sb := sb) (Pv := fun a => a = C ∨ a = C) (tb := tb1 ds[k]) (f := f ds[k]) (cbs := tb0 ds[k]) (pre := (ds.take k).flatMap fun d => ds2.map (f d)) hk W2 (hne D ⟨_, hD₂⟩) (by rintro (q | q) <;> exact hDC q) ?_ ?_ htop hxi hlen2
          (fun e he => ?_) (hwk1 _ hm) (helt _ hm) st2 ?_ ⟨ys, ep, hD₄, ((rD.calm c₁).calm c₂).grow g₄⟩ (sc₂.grow g₄) kp₄ ?_
        · rintro (q | q) <;> exact hne C hC₂ q.symm
        · rintro a ((q | q) | q | q)
          · exact hbase a (.inl q)
          · exact hbase a (.inl q)
          · exact hbase a (.inr (.inl q))
          · subst q; exact hI2s
        · intro s5 v5 E5 Q5 sc5 r5 h5
          exact hasg1 _ hm e he s5 v5 E5 Q5 sc5 r5 fun s6 a b c => h5 s6 a (b.more fun _ q => .inl q) c
        · rw [hlf]
          exact Nat.le_trans (Nat.mul_le_mul_right _ hkl) hlen
        · intro s₅ ys₅ n₅ kp₅ hD₅ r₅ sc₅ mv₅
          obtain ⟨oI2, fs2, hI2, hIf2⟩ := (W2.wk (XD X D)).fields _ _ st2
          have c₅ : Calm (XD X D) sx.heap s₅.heap := fun a o vs n na hq e => mv₅.get a o (by
            rintro ((q | q) | q | q)
            · subst q
              obtain ⟨m, _, hn, _⟩ := sc₂.grow g₄
              obtain ⟨o', _, _, e', hd', _⟩ := hn
              rw [hCl, e] at e'; cases e'; rw [hq] at hd'; cases hd'
            · subst q
              obtain ⟨m, _, hn, _⟩ := sc₂.grow g₄
              obtain ⟨o', _, _, e', hd', _⟩ := hn
              rw [hCl, e] at e'; cases e'; rw [hq] at hd'; cases hd'
            · exact na (.inr q)
            · subst q; rw [hI2] at e; cases e; rw [hIf2] at hq; cases hq) e
          have hI₂ : ∃ o, s₂.heap.get? I = some o := by
            obtain ⟨o, _, e, _⟩ := (W.wk (XD X D)).fields _ _ st₂; exact ⟨o, e⟩
          have st₄ := (W.wk (XD X D)).frame _ _ _ st₂ (calm_grow g₄) fun o e => g₄ I o e
          have st₅ := (W.wk (XD X D)).frame _ _ _ st₄ c₅ fun o e => mv₅.get I o (fun z => by
            rcases z with (q | q) | q | q
            · exact hIC q
            · exact hIC q
            · exact hDI q.symm
            · exact hne I hI₂ q) e
          refine wpAny_pure ⟨rfl, ds.length + 1 - (k + 1), by omega, k + 1, ys₅, n₅, hlt, rfl, kp₅, st₅, hD₅, ?_, sc₅.weak (hwk0 _ hm)⟩
          rw [List.take_add_one, hd, List.flatMap_append]
          simpa using r₅
      exact wpAny_bind (wpAny_runOwn (compStart_in (loop _ rfl) ((W2.wk _).self 0 _ _ _ st2 (loop _ rfl))))
    · have hk' : k = ds.length := by omega
      subst hk'
      refine (W.wk (XD X D)).done s₀ _ _ st fun h₁ tk₁ k₁ => ?_
      have c₁ : Calm (XD X D) s₀.heap h₁ := calm_fields hI hIf k₁
      have mv₁ : Mv (fun a => a = I) s₀ { s₀ with heap := h₁, toks := tk₁ } := ⟨h₁, tk₁, rfl, k₁⟩
      refine wpAny_pure (hR _ ys ep (mv₁.keeps kp fun a q => hbase a (.inr (.inr q))) (k₁ D _ hDI hD) ?_ (sc.but hI (fun _ _ q => by rw [hIf] at q; cases q) (fun _ q => by rw [hIf] at q; cases q) c₁ k₁))
      have := rD.calm c₁
      rwa [List.take_length] at this
  · obtain ⟨n, hD⟩ := hacc
    exact ⟨0, #[], n, Nat.zero_le _, rfl, hkp, hst, hD, by simpa using RpL.nil, hsc⟩
/-- the parts of a comprehension over two sources -/
structure Cmp2 (prog : Program) (w : World) (hT : Heap) (A : Around) (env : Env) (bs : List (Str × PyData)) (elt t0 target iter : PySem.Expr) (scope : Scope) (cl : List (Str × Addr)) (cbs : List (Str × PyData))
    (ds ds2 : List PyData) (tb0 : PyData → List (Str × PyData)) (tb1 : PyData → PyData → List (Str × PyData)) (f : PyData → PyData → PyData) : Prop where
  clos : closureFor scope env = pure cl
  kind : scope.kind = .function
  names : ∀ x ∈ scope.names, x.2 = .local → scope.names.lookup x.1 = some .local
  cells : ∀ n c, cl.lookup n = some c → env.cells.lookup n = some c
  cap : ∀ C x d, cbs.lookup x = some d → bs.lookup x = some d ∧ (env.kindOf x = some .cell ∨ env.kindOf x = some .free) ∧
      ((cEnv scope cl C env).kindOf x = some .cell ∨ (cEnv scope cl C env).kindOf x = some .free) ∧ (cEnv scope cl C env).cells.lookup x = env.cells.lookup x
  asg0 : ∀ C Y, CL cl C → ∀ d ∈ ds, Asg prog w A Y (fun a => a = C) (cEnv scope cl C env) cbs t0 d (tb0 d)
  weak0 : ∀ d ∈ ds, ∀ x e, cbs.lookup x = some e → (tb0 d).lookup x = some e
  src : ∀ C Y, CL cl C → ∀ d ∈ ds, SR prog w hT A Y (cEnv scope cl C env) (tb0 d) iter ds2
  asg1 : ∀ C Y, CL cl C → ∀ d ∈ ds, ∀ e ∈ ds2, Asg prog w A Y (fun a => a = C) (cEnv scope cl C env) (tb0 d) target e (tb1 d e)
  weak1 : ∀ d ∈ ds, ∀ e ∈ ds2, ∀ x u, (tb0 d).lookup x = some u → (tb1 d e).lookup x = some u
  elt : ∀ C Y, CL cl C → ∀ d ∈ ds, ∀ e ∈ ds2, EV prog w hT A Y (cEnv scope cl C env) (tb1 d e) elt (f d e)
  fold : ∀ C x, foldedSetIterable iter (cEnv scope cl C env) x = pure x
  len : ds.length * ds2.length ≤ 1000000
  len2 : ds2.length ≤ 1000000
theorem ev_comp2 {elt target iter t0 i0 : PySem.Expr} {scope : Scope} {pos : Pos} {cl : List (Str × Addr)} {cbs : List (Str × PyData)} {ds ds2 : List PyData} {tb0 : PyData → List (Str × PyData)} {tb1 : PyData → PyData → List (Str × PyData)} {f : PyData → PyData → PyData}
    (K : Cmp2 prog w hT A env bs elt t0 target iter scope cl cbs ds ds2 tb0 tb1 f) (hsrc : SR prog w hT A X env bs i0 ds) (hs : ∀ x, foldedSetIterable i0 env x = pure x := by intro _; rfl) :
    EV prog w hT A X env bs (.ListComp elt [⟨t0, i0, [], 0⟩, ⟨target, iter, [], 0⟩] scope pos) (.list (ds.flatMap fun d => ds2.map (f d))) := by
  intro s E ok
  rw [eval_ListComp]
  refine wpAny_comprehension_free (use := none) rfl hs K.clos K.kind K.names ?_
  refine wpAny_mono (hsrc s E ok) (fun x s₁ h₁ => wpAny_mono h₁ (fun it s₂ h₂ => ?_) fun _ _ e => e) fun _ _ e => e
  obtain ⟨I, St, rfl, hIn, k₂, W, st⟩ := h₂
  refine wpAny_newObj_type ?_
  let D := s₂.heap.objs.size
  let h₃ := s₂.heap.push { cls := .type "list", dict := none, data := .seq ([] : List Value).toArray }
  have hDn : s₂.heap.get? D = none := none_of_lt (Grow.refl _) (Nat.le_refl _)
  have hIlt : I < D := by
    obtain ⟨o, fs, e, _⟩ := (W.wk X).fields _ _ st
    exact Heap.lt_size e
  have g₃ : Grow s₂.heap h₃ := grow_push _ _
  have hsz : h₃.objs.size = D + 1 := Heap.size_push ..
  have ok₂ := ok.keeps k₂
  have st₂ : St (XD X D) 0 s₂.heap := W.more X (XD X D) 0 _ st fun a ha => ha.imp id fun q => by subst q; exact hDn
  have st₃ : St (XD X D) 0 h₃ := (W.wk _).frame _ _ _ st₂ (calm_grow g₃) fun o e => g₃ I o e
  have sc₂ : Sc (XD X D) env bs s₂.heap := ok₂.sc.more fun a ha => ha.imp id fun q => by subst q; exact hDn
  have sc₃ : Sc (XD X D) env bs h₃ := sc₂.grow g₃
  refine newEnv_comp ?_
  show codeAny _ A (.compStart _ 0 (.ref I) (.ref D) (cEnv scope cl h₃.objs.size env)) (compPost (model prog w) A E none (Gives s X _) (.ref D) h₃.objs.size) { s₂ with heap := pushCells (h₃.push { cls := .type "dict", data := .dict #[] }) scope.names }
  have g₄ : Grow h₃ (pushCells (h₃.push { cls := .type "dict", data := .dict #[] }) scope.names) := fun b o e => pushCells_keeps _ _ b o (Heap.get?_push_of_some _ e)
  have sc₄ := sc_start (scope := scope) (cl := cl) (cbs := cbs) sc₃ K.cells (K.cap h₃.objs.size)
  have hCL : CL cl h₃.objs.size := fun n c e => by
    obtain ⟨_, cm, _, hc, _⟩ := sc₃
    exact (hc n c (K.cells n c e)).lt
  have hDs : s.heap.get? D = none := none_of_lt (keeps_grow k₂) (Nat.le_refl _)
  have hCs : ∀ a, h₃.objs.size ≤ a → s.heap.get? a = none := fun a ha => none_of_lt ((keeps_grow k₂).trans g₃) ha
  have hDC : D < h₃.objs.size := by rw [hsz]; exact Nat.lt_succ_self _
  have loop : ∀ sx : Shared, sx = { s₂ with heap := pushCells (h₃.push { cls := .type "dict", data := .dict #[] }) scope.names } →
      codeAny (model prog w) A (.compLoop (.ListComp elt [⟨t0, i0, [], 0⟩, ⟨target, iter, [], 0⟩] scope pos) 0 (.ref I) (.ref D) (cEnv scope cl h₃.objs.size env)) (compPost (model prog w) A E none (Gives s X (.list (ds.flatMap fun d => ds2.map (f d)))) (.ref D) h₃.objs.size) sx := by
    rintro sx rfl
    refine comp_loop_out (hT := hT) (X := X) (sb := s) (C := h₃.objs.size) (tb0 := tb0) (tb1 := tb1) (f := f) K.kind rfl W (Nat.ne_of_gt hIlt) (Nat.ne_of_lt hDC) (Nat.ne_of_lt (Nat.lt_trans hIlt hDC)) ?_ ok.top ok.xi K.len K.len2
      (K.asg0 _ _ hCL) K.weak0 (K.src _ _ hCL) (K.asg1 _ _ hCL) K.weak1 (K.elt _ _ hCL) (K.fold _) ((W.wk _).frame _ _ _ st₃ (calm_grow g₄) fun o e => g₄ I o e) ⟨0, g₄ _ _ (Heap.get?_push_size _ rfl)⟩ sc₄ (keeps_trans k₂ ⟨_, s₂.toks, rfl, g₃.trans g₄⟩) ?_
    · rintro a (rfl | rfl | rfl)
      · exact hCs _ (Nat.le_refl _)
      · exact hDs
      · exact hIn
    · intro s' ys n kp hD r sc
      obtain ⟨m, _, hn, _⟩ := sc
      refine ⟨m, hn, fun h' hs' => ⟨keeps_but kp (hCs _ (Nat.le_refl _)) hs', Rp.ns (.list hD (ok.xi.notnone hDs) (r.less fun a q => .inl q)) hn hs'⟩⟩
  exact codeAny_compStart_list (loop _ rfl) ((W.wk _).self 0 _ _ _ ((W.wk _).frame _ _ _ st₃ (calm_grow g₄) fun o e => g₄ I o e) (loop _ rfl))
end Mine
end
section
open PySem PySem.W PyProof.Rows
set_option maxRecDepth 100000
namespace Mine
noncomputable abbrev PR : Program := PySem.Challenge.rw_oy0096_01.row.prog
theorem len0 {α : Type} : ∀ {l : List α}, l.length = 0 → l = [] := List.length_eq_zero_iff.mp
theorem len1 {α : Type} {l : List α} (h : l.length = 1) : ∃ a, l = [a] := List.length_eq_one_iff.mp h
theorem len2 {α : Type} {l : List α} (h : l.length = 2) : ∃ a b, l = [a, b] := by
  cases l with
  | nil => cases h
  | cons a l => exact let ⟨b, e⟩ := len1 (Nat.succ.inj h); ⟨a, b, e ▸ rfl⟩
theorem len3 {α : Type} {l : List α} (h : l.length = 3) : ∃ a b c, l = [a, b, c] := by
  cases l with
  | nil => cases h
  | cons a l => exact let ⟨b, c, e⟩ := len2 (Nat.succ.inj h); ⟨a, b, c, e ▸ rfl⟩
/-- the top -/
structure Tp (w : World) (hT : Heap) : Prop where
  k : (hd.heap_39 w.params).In hT
  lim : hT.NoLimit
  blt : ∃ mb, hT.Ns builtinsNs mb ∧ ∀ x : Str, x ≠ "__name__" → mb x = bootBuiltins x
variable {w : World} {hT : Heap}
theorem str_keys {es : List DictEntry} (h : (es.all fun e => match e.key with | .str _ _ => true | _ => false) = true) : StrKeys es.toArray := fun e he => by
  have := List.all_eq_true.mp h e (by simpa using he)
  cases hk : e.key with
  | str n t => exact ⟨n, t, rfl⟩
  | _ => rw [hk] at this; cases this
theorem Tp.g (T : Tp w hT) : ∃ es : Array DictEntry, hT.Ns mainGlobals (nsFind es) ∧ nsFind es (Str.ofString "S_IFMT") = some (.ref 21) ∧ nsFind es (Str.ofString "filemode") = some (.ref 61) ∧
    nsFind es (Str.ofString "reduce") = some (.ref 70) ∧ nsFind es (Str.ofString "_c3_merge") = some (.ref 75) ∧ nsFind es (Str.ofString "_strcoll") = some (.ref 82) ∧ nsFind es (Str.ofString "_law_votes") = some (.ref 89) ∧
    nsFind es (Str.ofString "_law_beside") = some (.ref 94) ∧ nsFind es (Str.ofString "_law_order") = some (.ref 101) ∧ nsFind es (Str.ofString "_law_free") = some (.ref 106) ∧
    nsFind es (Str.ofString "_filemode_table") = some (.ref 54) ∧ nsFind es (Str.ofString "_initial_missing") = some (.ref 62) ∧
    nsFind es (Str.ofString "len") = none ∧ nsFind es (Str.ofString "range") = none ∧ nsFind es (Str.ofString "sorted") = none ∧ nsFind es (Str.ofString "enumerate") = none ∧ nsFind es (Str.ofString "iter") = none ∧
    nsFind es (Str.ofString "RuntimeError") = none ∧ nsFind es (Str.ofString "next") = none := by
  have e := T.k 3 _ rfl
  refine ⟨_, ⟨_, _, _, e, rfl, str_keys (es := Array.toList _) ?_, fun _ => rfl⟩, ?_⟩
  · rfl
  · refine ⟨?_, ?_, ?_, ?_, ?_, ?_, ?_, ?_, ?_, ?_, ?_, ?_, ?_, ?_, ?_, ?_, ?_, ?_⟩ <;> rfl
end Mine
end
section
open PySem PySem.W PyProof.Rows
set_option maxRecDepth 100000
namespace Mine
variable {w : World} {hT : Heap} {A : Around} {X : Addr → Prop} {env : Env} {bs : List (Str × PyData)}
theorem Tp.gn (T : Tp w hT) : GN hT (Str.ofString "S_IFMT") (.ref 21) ∧ GN hT (Str.ofString "filemode") (.ref 61) ∧ GN hT (Str.ofString "reduce") (.ref 70) ∧ GN hT (Str.ofString "_c3_merge") (.ref 75) ∧ GN hT (Str.ofString "_strcoll") (.ref 82) ∧
    GN hT (Str.ofString "_law_votes") (.ref 89) ∧ GN hT (Str.ofString "_law_beside") (.ref 94) ∧ GN hT (Str.ofString "_law_order") (.ref 101) ∧ GN hT (Str.ofString "_law_free") (.ref 106) ∧ GN hT (Str.ofString "_filemode_table") (.ref 54) ∧
    GN hT (Str.ofString "_initial_missing") (.ref 62) := by
  obtain ⟨es, n, h1, h2, h3, h4, h5, h6, h7, h8, h9, h10, h11, _⟩ := T.g
  exact ⟨⟨_, n, h1⟩, ⟨_, n, h2⟩, ⟨_, n, h3⟩, ⟨_, n, h4⟩, ⟨_, n, h5⟩, ⟨_, n, h6⟩, ⟨_, n, h7⟩, ⟨_, n, h8⟩, ⟨_, n, h9⟩, ⟨_, n, h10⟩, ⟨_, n, h11⟩⟩
theorem Tp.bn (T : Tp w hT) : BN hT (Str.ofString "len") (.builtin "len") ∧ BN hT (Str.ofString "range") (.type "range") ∧ BN hT (Str.ofString "sorted") (.builtin "sorted") ∧ BN hT (Str.ofString "enumerate") (.type "enumerate") ∧
    BN hT (Str.ofString "iter") (.builtin "iter") ∧ BN hT (Str.ofString "RuntimeError") (.type "RuntimeError") := by
  obtain ⟨es, n, _, _, _, _, _, _, _, _, _, _, _, h1, h2, h3, h4, h5, h6, _⟩ := T.g
  obtain ⟨mb, hb, e⟩ := T.blt
  exact ⟨⟨_, _, n, h1, hb, (e _ (by decide +kernel)).trans (by decide +kernel)⟩, ⟨_, _, n, h2, hb, (e _ (by decide +kernel)).trans (by decide +kernel)⟩, ⟨_, _, n, h3, hb, (e _ (by decide +kernel)).trans (by decide +kernel)⟩,
    ⟨_, _, n, h4, hb, (e _ (by decide +kernel)).trans (by decide +kernel)⟩, ⟨_, _, n, h5, hb, (e _ (by decide +kernel)).trans (by decide +kernel)⟩, ⟨_, _, n, h6, hb, (e _ (by decide +kernel)).trans (by decide +kernel)⟩⟩
theorem fn_ifmt (T : Tp w hT) (mode : Int) : FN PR w hT 21 [.int mode] (.int (Builtin.bitAnd mode 61440)) 1 := by
  refine fn_intro (ps := [Str.ofString "mode"]) (T.k 21 _ rfl) rfl T.lim (codeRec_of T.k (by rfl)) rfl rfl rfl rfl ?_ ?_ rfl ?_
  · rintro s vals _ hl
    obtain ⟨v, rfl⟩ := len1 hl
    exact .of_eq rfl
  · intro n x hx; simp at hx; subst hx; exact .inl rfl
  · intro A X s₀ L hA F
    refine st_ret F (ev_bin (ev_name rfl) ev_int op_and)
theorem fn_strcoll (T : Tp w hT) (a b : Str) : FN PR w hT 82 [.str a, .str b] (.int (b2i (decide (b.cps.toList < a.cps.toList)) - b2i (decide (a.cps.toList < b.cps.toList)))) 1 := by
  refine fn_intro (ps := [Str.ofString "a", Str.ofString "b"]) (T.k 82 _ rfl) rfl T.lim (codeRec_of T.k (by rfl)) rfl rfl rfl rfl ?_ ?_ rfl ?_
  · rintro s vals _ hl
    obtain ⟨v, u, rfl⟩ := len2 hl
    exact .of_eq rfl
  · intro n x hx; simp at hx; rcases hx with rfl | rfl <;> exact .inl rfl
  · intro A X s₀ L hA F
    refine st_ret F (ev_bin (ev_cmp (ev_name rfl) (ev_name rfl) op_gt_str) (ev_cmp (ev_name rfl) (ev_name rfl) op_lt_str) op_sub_bool)
end Mine
end
section
open PySem PySem.W PyProof.Rows
set_option maxRecDepth 100000
namespace Mine
variable {prog : Program} {w : World} {hT : Heap} {A : Around} {X : Addr → Prop} {env : Env} {bs : List (Str × PyData)}
theorem ev_eq {e : PySem.Expr} {d d' : PyData} (h : EV prog w hT A X env bs e d) (q : d = d') : EV prog w hT A X env bs e d' := q ▸ h
theorem tr_eq {e : PySem.Expr} {c c' : Bool} (h : TR prog w hT A X env bs e c) (q : c = c') : TR prog w hT A X env bs e c' := q ▸ h
/-- [e] * n -/
theorem ev_rep {e en : PySem.Expr} {p1 p2 : Pos} {n : Nat} {d : PyData} (he : EV prog w hT A X env bs e d) (hn : EV prog w hT A X env bs en (.int n)) (hle : n ≤ 1000) (hst : starEach [e] env = (false, eval e env) :: starEach [] env := by rfl) :
    EV prog w hT A X env bs (.BinOp (.List [e] p1) .Mult en p2) (.list (List.replicate n d)) :=
  ev_eq (ev_bin (ev_list (evl_cons he evl_nil hst)) hn (op_rep (by omega) (by omega) (by simp) (by simp))) (by simp)
theorem lst_rep (n : Nat) (x : Int) : (PyData.list (List.replicate n (PyData.int x))) = lst (List.replicate n x) := by simp [lst]
theorem lsts_rep (n : Nat) (x : List Int) : (PyData.list (List.replicate n (lst x))) = lsts (List.replicate n x) := by simp [lsts]
noncomputable def clsP (t : Nat) (r : List (List Int)) : List (List (List Int)) := r.map fun l => [pk l none (some (t : Int)) none, pk l (some (t : Int)) (some (2 * t)) none, pk l (some (2 * (t : Int))) none none]
noncomputable def deedP (r : List (List Int)) : List (List (List Int)) := r.map fun l => [pk l (some 0) none (some 3), pk l (some 1) none (some 3), pk l (some 2) none (some 3)]
noncomputable def mid (j : Nat) (ps : List (List (List Int))) : List (List Int) := ps.map fun p => p.getD j []
noncomputable def lsts3 (ps : List (List (List Int))) : PyData := .list (ps.map lsts)
noncomputable def hit (t : Nat) (g : List (List (List Int)) → Bool) (ps : List (List (List Int))) (bit : Int) : Bool :=
  (mid 0 ps == List.replicate 3 (List.replicate t bit)) && (mid 2 ps == List.replicate 3 (List.replicate t (1 - bit))) && g ps
noncomputable def stepB (n t : Nat) (r : List (List Int)) (g : List (List (List Int)) → Bool) : Bool :=
  (r.contains (List.replicate n 0) && r.contains (List.replicate n 1)) || (hit t g (clsP t r) 0 || hit t g (clsP t r) 1 || (hit t g (deedP r) 0 || hit t g (deedP r) 1))
noncomputable def fCls (t : Nat) : PyData → PyData
  | .list xs => .list [.list (pick xs none (some (t : Int)) none), .list (pick xs (some (t : Int)) (some (2 * t)) none), .list (pick xs (some (2 * (t : Int))) none none)]
  | _ => .none
noncomputable def fDeed : PyData → PyData
  | .list xs => .list [.list (pick xs (some 0) none (some 3)), .list (pick xs (some 1) none (some 3)), .list (pick xs (some 2) none (some 3))]
  | _ => .none
theorem fCls_map (t : Nat) (r : List (List Int)) : (r.map lst).map (fCls t) = (clsP t r).map lsts := by
  unfold clsP
  rw [List.map_map, List.map_map]
  refine List.map_congr_left fun l _ => ?_
  show fCls t (.list (l.map .int)) = _
  simp only [fCls, pick_map, Function.comp, lsts, lst, List.map_cons, List.map_nil]
theorem fDeed_map (r : List (List Int)) : (r.map lst).map fDeed = (deedP r).map lsts := by
  unfold deedP
  rw [List.map_map, List.map_map]
  refine List.map_congr_left fun l _ => ?_
  show fDeed (.list (l.map .int)) = _
  simp only [fDeed, pick_map, Function.comp, lsts, lst, List.map_cons, List.map_nil]
noncomputable def fItem (j : Nat) : PyData → PyData
  | .list xs => xs.getD j .none
  | _ => .none
theorem fItem_map (j : Nat) (hj : j < 3) (ps : List (List (List Int))) (h3 : ∀ p ∈ ps, p.length = 3) : (ps.map lsts).map (fItem j) = (mid j ps).map lst := by
  unfold mid
  rw [List.map_map, List.map_map]
  refine List.map_congr_left fun p hp => ?_
  show (p.map lst).getD j .none = lst (p.getD j [])
  have := h3 p hp
  rw [List.getD_eq_getElem?_getD, List.getD_eq_getElem?_getD, List.getElem?_map, List.getElem?_eq_getElem (by omega)]
  rfl
end Mine
end
section
open PySem PySem.W PyProof.Rows
set_option maxRecDepth 100000
set_option maxHeartbeats 2000000
namespace Mine
variable {w : World} {hT : Heap}
theorem fn_free_base (T : Tp w hT) (a b c : Int) : FN PR w hT 106 [lsts [[a], [b], [c]]] (.bool ([[a], [b], [c]].contains [0] && [[a], [b], [c]].contains [1])) 1 := by
  refine fn_intro (ps := [Str.ofString "rules"]) (T.k 106 _ rfl) rfl T.lim (codeRec_of T.k (by rfl)) rfl rfl rfl rfl ?_ ?_ rfl ?_
  · rintro s vals _ hl
    obtain ⟨v, rfl⟩ := len1 hl
    exact .of_eq rfl
  · intro n x hx; simp at hx; subst hx; exact .inl rfl
  · intro A X s₀ L hA F
    have hu := hA.cl
    refine SX.st (bs' := []) ?_
    refine sx_assign F (ev_eq (d' := .int (1 : Nat)) (ev_len T.bn.1 rfl F.glob F.blt (ev_item (ev_name rfl) ev_int (by decide) (by decide) rfl) (by simp)) rfl) (F.storeL rfl) ?_
    refine sx_if (c := [[a], [b], [c]].contains [0] && [[a], [b], [c]].contains [1]) (o₁ := some (.bool true)) F
      (tr_and (tr_eq (tr_cmp (ev_eq (ev_rep (n := 1) ev_int (ev_name rfl) (by omega)) (lst_rep _ _)) (ev_name rfl) (op_in (shaped_lst _) (shaped_lsts _) hu)) (any_lst _ _))
        fun _ => tr_eq (tr_cmp (ev_eq (ev_rep (n := 1) ev_int (ev_name rfl) (by omega)) (lst_rep _ _)) (ev_name rfl) (op_in (shaped_lst _) (shaped_lsts _) hu)) (any_lst _ _))
      (fun _ => sx_ret F ev_bool) ?_ ?_
    · intro h r e; rw [h, ← e]
    · intro h
      have hc : ([[a], [b], [c]].contains [0] && [[a], [b], [c]].contains [1]) = false := h.resolve_right (by simp)
      rw [hc]
      refine sx_if (c := true) (o₁ := some (.bool false)) F (tr_eq (tr_cmp (ev_name rfl) ev_int op_eq_int) (by rfl)) (fun _ => sx_ret F ev_bool) (fun _ r e => e) ?_
      intro h; cases h with
      | inl h => cases h
      | inr h => cases h
end Mine
end
section
open PySem PySem.W PyProof.Rows
set_option maxRecDepth 100000
set_option maxHeartbeats 4000000
namespace Mine
variable {w : World} {hT : Heap}
/-- [part[j] for part in parts] -/
theorem cmp_item {A : Around} {env : Env} {bs : List (Str × PyData)} {scope : Scope} {pos p1 p2 : Pos} {k : Nat} {j : Nat} {ps : List (List (List Int))} (hj : j < 3) (h3 : ∀ p ∈ ps, p.length = 3) (hl : ps.length ≤ 1000)
    (hcl : closureFor scope env = pure []) (hk : scope.kind = .function) (hn : scope.names = [(Str.ofString ".0", .local), (Str.ofString "part", .local)]) :
    Cmp PR w hT A env bs (.Subscript (.Name (Str.ofString "part") p1) (.Constant (.int (j : Int)) k p2) pos) (.Name (Str.ofString "part") p3) scope [] [] (ps.map lsts) (fun d => [(Str.ofString "part", d)]) (fItem j) where
  clos := hcl
  kind := hk
  names := by rw [hn]; decide +kernel
  cells := fun n c e => by cases e
  cap := fun C x d e => by cases e
  asg := fun C Y hC d hd => asg_local hk (by show (relabel scope env).names.lookup _ = _; simp only [relabel, hn]; rfl)
  weak := fun d hd x e q => by cases q
  elt := fun C Y hC d hd => by
    obtain ⟨p, hp, rfl⟩ := List.mem_map.mp hd
    have hp3 := h3 p hp
    refine ev_item (xs := p.map lst) (ev_name (d := lsts p) (by simp)) ev_int (by omega) (by omega) ?_
    show (p.map lst)[((j : Nat) : Int).toNat]? = some ((p.map lst).getD j .none)
    rw [Int.toNat_natCast, List.getD_eq_getElem?_getD, List.getElem?_eq_getElem (by simp; omega)]
    rfl
  len := by simp; omega
theorem fn_free_step (T : Tp w hT) (r0 r1 r2 : List Int) (n t k : Nat) (g : List (List (List Int)) → Bool) (h0 : r0.length = n) (h1 : r1.length = n) (h2 : r2.length = n) (hn1 : n ≠ 1) (hn : n ≤ 1000) (ht : n / 3 = t)
    (hrec : ∀ ps, ps = clsP t [r0, r1, r2] ∨ ps = deedP [r0, r1, r2] → FN PR w hT 106 [lsts (mid 1 ps)] (.bool (g ps)) k) :
    FN PR w hT 106 [lsts [r0, r1, r2]] (.bool (stepB n t [r0, r1, r2] g)) (k + 1) := by
  have ht' : t ≤ 1000 := by omega
  have hrl : ∀ l ∈ [r0, r1, r2], l.length = n := by simp [h0, h1, h2]
  generalize hr : [r0, r1, r2] = r at *
  have hrlen : r.length = 3 := by rw [← hr]; rfl
  have hd0 : (r.map lst)[(0 : Int).toNat]? = some (lst r0) := by rw [← hr]; rfl
  refine fn_intro (ps := [Str.ofString "rules"]) (T.k 106 _ rfl) rfl T.lim (codeRec_of T.k (by rfl)) rfl rfl rfl rfl ?_ ?_ rfl ?_
  · rintro s vals _ hl
    obtain ⟨v, rfl⟩ := len1 hl
    exact .of_eq rfl
  · intro n x hx; simp at hx; subst hx; exact .inl rfl
  · intro A X s₀ L hA F
    have hu := hA.cl
    have hh := hA.1
    refine SX.st (bs' := []) ?_
    refine sx_assign F (ev_eq (d' := .int (n : Nat)) (ev_len T.bn.1 rfl F.glob F.blt (ev_item (xs := r.map lst) (ev_name (d := lsts r) rfl) ev_int (by decide) (by decide) hd0) (by simp; omega)) (by simp [h0])) (F.storeL rfl) ?_
    refine sx_if (c := r.contains (List.replicate n 0) && r.contains (List.replicate n 1)) (o₁ := some (.bool true)) F
      (tr_and (tr_eq (tr_cmp (ev_eq (ev_rep (n := n) ev_int (ev_name rfl) hn) (lst_rep _ _)) (ev_name (d := lsts r) rfl) (op_in (shaped_lst _) (shaped_lsts _) hu)) (any_lst _ _))
        fun _ => tr_eq (tr_cmp (ev_eq (ev_rep (n := n) ev_int (ev_name rfl) hn) (lst_rep _ _)) (ev_name (d := lsts r) rfl) (op_in (shaped_lst _) (shaped_lsts _) hu)) (any_lst _ _))
      (fun _ => sx_ret F ev_bool) ?_ ?_
    · intro h r' e; rw [← e]; unfold stepB; rw [h, Bool.true_or]
    · intro h
      have hc : (r.contains (List.replicate n 0) && r.contains (List.replicate n 1)) = false := h.resolve_right (by simp)
      unfold stepB
      rw [hc, Bool.false_or]
      refine sx_if (c := false) (o₁ := some (.bool false)) F (tr_eq (tr_cmp (ev_name rfl) ev_int op_eq_int) (by simp; omega)) (fun q => by cases q) (fun q => by cases q) ?_
      intro _
      refine sx_assign F (ev_eq (d' := .int (t : Nat)) (ev_bin (ev_name rfl) ev_int (op_fdiv (by decide) (PyProof.noPylong_small (by omega)))) (by rw [← ht]; simp [Int.fdiv_eq_ediv_of_nonneg])) (F.storeC (c := L + 1) rfl rfl) ?_
      refine sx_compA (cl := [(Str.ofString "third", L + 1)]) (cbs := [(Str.ofString "third", .int (t : Nat))]) (ds := r.map lst) (tb := fun d => [(Str.ofString "rule", d), (Str.ofString "third", .int (t : Nat))]) (f := fCls t) F
        { clos := rfl, kind := rfl, names := by decide +kernel, cells := ?_, cap := ?_, asg := ?_, weak := ?_, elt := ?_, len := by simp; omega } (sr_list hh (ev_name (d := lsts r) rfl)) (F.storeL rfl) ?_
      · intro x c e
        have := PySem.mem_of_lookup e
        simp at this
        obtain ⟨rfl, rfl⟩ := this
        rfl
      · intro C
        refine by_mem (P := fun x d => _) ?_
        intro p hp
        simp at hp
        subst hp
        exact ⟨rfl, .inl rfl, .inl rfl, rfl⟩
      · intro C Y hC d hd
        exact asg_local rfl rfl
      · intro d hd
        exact weak_cons rfl
      · intro C Y hC d hd
        obtain ⟨l, hl, rfl⟩ := List.mem_map.mp hd
        have hll := hrl l hl
        have hlen : (l.map PyData.int).length ≤ 1000000 := by simp; omega
        refine ev_list (evl_cons ?_ (evl_cons ?_ (evl_cons ?_ evl_nil)))
        · exact ev_slice (ev_name (d := lst l) rfl) evp_none (evp_some (ev_name rfl)) evp_none (by simp) hlen
        · exact ev_slice (ev_name (d := lst l) rfl) (evp_some (ev_name rfl)) (evp_some (ev_bin ev_int (ev_name rfl) (op_mul (by decide)))) evp_none (by simp) hlen
        · exact ev_slice (ev_name (d := lst l) rfl) (evp_some (ev_bin ev_int (ev_name rfl) (op_mul (by decide)))) evp_none evp_none (by simp) hlen
      · rw [fCls_map]
        refine sx_compA (cl := []) (cbs := []) (ds := r.map lst) (tb := fun d => [(Str.ofString "rule", d)]) (f := fDeed) F
          { clos := rfl, kind := rfl, names := by decide +kernel, cells := (fun n c e => by cases e), cap := (fun C x d e => by cases e), asg := ?_, weak := (fun d hd x e q => by cases q), elt := ?_, len := by simp; omega } (sr_list hh (ev_name (d := lsts r) rfl)) (F.storeL rfl) ?_
        · intro C Y hC d hd
          exact asg_cell rfl rfl rfl hC
        · intro C Y hC d hd
          obtain ⟨l, hl, rfl⟩ := List.mem_map.mp hd
          have hll := hrl l hl
          have hlen : (l.map PyData.int).length ≤ 1000000 := by simp; omega
          refine ev_eq (d := .list ((upto 3).map fun n => match n with | .int i => PyData.list (pick (l.map .int) (some i) none (some 3)) | _ => PyData.none)) ?_ rfl
          refine ev_comp (cl := [(Str.ofString "rule", C + 1)]) (cbs := [(Str.ofString "rule", lst l)]) (tb := fun d => [(Str.ofString "n", d), (Str.ofString "rule", lst l)])
            { clos := rfl, kind := rfl, names := by decide +kernel, cells := ?_, cap := ?_, asg := ?_, weak := ?_, elt := ?_, len := by simp [upto] } (sr_range hh T.bn.2.1 rfl F.glob F.blt ev_int (by decide) (by decide))
          · intro x c e
            have := PySem.mem_of_lookup e
            simp at this
            obtain ⟨rfl, rfl⟩ := this
            rfl
          · intro C'
            refine by_mem (P := fun x d => _) ?_
            intro p hp
            simp at hp
            subst hp
            exact ⟨rfl, .inl rfl, .inl rfl, rfl⟩
          · intro C' Y' hC' d' hd'
            exact asg_local rfl rfl
          · intro d' hd'
            exact weak_cons rfl
          · intro C' Y' hC' d' hd'
            obtain ⟨i, hi, rfl⟩ := List.mem_map.mp hd'
            exact ev_slice (ev_name (d := lst l) rfl) (evp_some (ev_name (d := .int (i : Int)) rfl)) evp_none (evp_some ev_int) (by simp) hlen
        · rw [fDeed_map]
          have hcl3 : ∀ p ∈ clsP t r, p.length = 3 := by intro p hp; obtain ⟨l, _, rfl⟩ := List.mem_map.mp hp; rfl
          have hde3 : ∀ p ∈ deedP r, p.length = 3 := by intro p hp; obtain ⟨l, _, rfl⟩ := List.mem_map.mp hp; rfl
          have hcll : (clsP t r).length = 3 := by simp [clsP, hrlen]
          have hdel : (deedP r).length = 3 := by simp [deedP, hrlen]
          refine sx_for (ds := [lsts3 (clsP t r), lsts3 (deedP r)]) (fun i => if (hit t g (if i = 0 then clsP t r else deedP r) 0 || hit t g (if i = 0 then clsP t r else deedP r) 1) = true then some (.bool true) else none) F (F.storeL rfl)
            (sr_tuple hh (ev_tuple (evl_cons (ev_name rfl) (evl_cons (ev_name rfl) evl_nil)))) ?_ ?_ ?_
          · intro i e he
            obtain ⟨ps, hps, he', h3, hl3, hf⟩ : ∃ ps, (if i = 0 then clsP t r else deedP r) = ps ∧ e = lsts3 ps ∧ (∀ p ∈ ps, p.length = 3) ∧ ps.length = 3 ∧ FN PR w hT 106 [lsts (mid 1 ps)] (.bool (g ps)) k := by
              match i, he with
              | 0, he => exact ⟨_, rfl, by simpa using he.symm, hcl3, hcll, hrec _ (.inl rfl)⟩
              | 1, he => exact ⟨_, rfl, by simpa using he.symm, hde3, hdel, hrec _ (.inr rfl)⟩
            rw [hps]
            subst he'
            refine sx_compA (cl := []) (cbs := []) (ds := ps.map lsts) (tb := fun d => [(Str.ofString "part", d)]) (f := fItem 0) F (cmp_item (j := 0) (by decide) h3 (by omega) rfl rfl rfl) (sr_list hh (ev_name (d := lsts3 ps) rfl)) (F.storeL rfl) ?_
            rw [fItem_map 0 (by decide) ps h3]
            refine sx_compA (cl := []) (cbs := []) (ds := ps.map lsts) (tb := fun d => [(Str.ofString "part", d)]) (f := fItem 2) F (cmp_item (j := 2) (by decide) h3 (by omega) rfl rfl rfl) (sr_list hh (ev_name (d := lsts3 ps) rfl)) (F.storeL rfl) ?_
            rw [fItem_map 2 (by decide) ps h3]
            refine sx_for (ds := [.int 0, .int 1]) (fun j => if hit t g ps (j : Int) = true then some (.bool true) else none) F (F.storeL rfl) (sr_tuple hh (ev_tuple (evl_cons ev_int (evl_cons ev_int evl_nil)))) ?_ ?_ ?_
            · intro j e he
              have hj : e = .int (j : Int) := by
                match j, he with
                | 0, he => simpa using he.symm
                | 1, he => simpa using he.symm
              subst hj
              refine sx_if (c := (mid 0 ps == List.replicate 3 (List.replicate t (j : Int))) && (mid 2 ps == List.replicate 3 (List.replicate t (1 - (j : Int))))) (o₁ := if g ps = true then some (.bool true) else none) F
                (tr_and (tr_eq (tr_cmp (ev_name (d := lsts (mid 0 ps)) rfl) (ev_eq (ev_rep (n := 3) (ev_eq (ev_rep (n := t) (ev_name rfl) (ev_name rfl) ht') (lst_rep _ _)) ev_int (by decide)) (lsts_rep _ _)) (op_eq (shaped_lsts _) (shaped_lsts _) (by omega))) (eqv_lsts _ _))
                  fun _ => tr_eq (tr_cmp (ev_name (d := lsts (mid 2 ps)) rfl) (ev_eq (ev_rep (n := 3) (ev_eq (ev_rep (n := t) (ev_bin ev_int (ev_name rfl) op_sub) (ev_name rfl) ht') (lst_rep _ _)) ev_int (by decide)) (lsts_rep _ _)) (op_eq (shaped_lsts _) (shaped_lsts _) (by omega))) (eqv_lsts _ _))
                (fun _ => sx_if (c := g ps) (o₁ := some (.bool true)) F
                  (tr_ev (ev_call T.gn.2.2.2.2.2.2.2.2.1 rfl F.glob hf hA ⟨_, _, T.k 106 _ rfl, rfl⟩ (evl_cons (ev_eq (ev_comp (cmp_item (j := 1) (by decide) h3 (by omega) rfl rfl rfl) (sr_list hh (ev_name (d := lsts3 ps) rfl))) (by rw [fItem_map 1 (by decide) ps h3]; rfl)) evl_nil)))
                  (fun _ => sx_ret F ev_bool) (fun q r' e => by rw [if_pos q]; exact e) (fun q => by
                    have : g ps = false := q.resolve_right (by simp)
                    rw [this]; exact sx_nil fun _ _ e => e)) ?_ ?_
              · intro q r' e
                unfold hit
                rw [q, Bool.true_and]; exact e
              · intro q
                have : hit t g ps (j : Int) = false := by
                  unfold hit
                  rcases q with q | q
                  · rw [q, Bool.false_and]
                  · cases hg : g ps with
                    | true => rw [hg] at q; cases q
                    | false => rw [Bool.and_false]
                rw [this]
                refine sx_nil (weak_cons rfl)
            · intro r' e
              rw [show (List.range [PyData.int 0, PyData.int 1].length) = [0, 1] from rfl] at e
              simp only [List.findSome?_cons, List.findSome?_nil, Int.natCast_zero, Int.natCast_one] at e
              cases h0 : hit t g ps 0 <;> cases h1 : hit t g ps 1 <;> simp [h0, h1] at e ⊢ <;> exact e
            · intro e
              rw [show (List.range [PyData.int 0, PyData.int 1].length) = [0, 1] from rfl] at e
              simp only [List.findSome?_cons, List.findSome?_nil, Int.natCast_zero, Int.natCast_one] at e
              have : (hit t g ps 0 || hit t g ps 1) = false := by
                cases h0 : hit t g ps 0 <;> cases h1 : hit t g ps 1 <;> simp [h0, h1] at e ⊢
              rw [this]
              refine sx_nil fun x d e => weak_cons rfl x d (weak_cons rfl x d (weak_cons rfl x d e))
          · intro r' e
            rw [show (List.range [lsts3 (clsP t r), lsts3 (deedP r)].length) = [0, 1] from rfl] at e
            simp only [List.findSome?_cons, List.findSome?_nil, if_pos, Nat.one_ne_zero, if_false] at e
            cases h0 : (hit t g (clsP t r) 0 || hit t g (clsP t r) 1) <;> cases h1 : (hit t g (deedP r) 0 || hit t g (deedP r) 1) <;> simp only [h0, h1, if_true, Bool.false_eq_true, if_false, Bool.or_true, Bool.or_false] at e ⊢ <;> first | exact e | cases e
          · intro e
            rw [show (List.range [lsts3 (clsP t r), lsts3 (deedP r)].length) = [0, 1] from rfl] at e
            simp only [List.findSome?_cons, List.findSome?_nil, if_pos, Nat.one_ne_zero, if_false] at e
            have : (hit t g (clsP t r) 0 || hit t g (clsP t r) 1 || (hit t g (deedP r) 0 || hit t g (deedP r) 1)) = false := by
              cases h0 : (hit t g (clsP t r) 0 || hit t g (clsP t r) 1) <;> cases h1 : (hit t g (deedP r) 0 || hit t g (deedP r) 1) <;> simp only [h0, h1, if_true, Bool.false_eq_true, if_false] at e ⊢ <;> first | rfl | cases e
            rw [this]
            exact sx_ret F ev_bool
end Mine
end
section
open PySem PySem.W PyProof.Rows
set_option maxRecDepth 100000
set_option maxHeartbeats 4000000
namespace Mine
variable {prog : Program} {w : World} {hT : Heap} {A : Around} {X : Addr → Prop} {env : Env} {bs : List (Str × PyData)}
theorem asg_tupC {scope : Scope} {cl : List (Str × Addr)} {C : Addr} {Y : Addr → Prop} {cbs : List (Str × PyData)} {elts : List PySem.Expr} {k : Nat} {pos : Pos} (xs : List (Str × Pos)) {ds : List PyData} (hh : A.handled = none) (hf : scope.kind = .function)
    (hl : xs.length = ds.length) (he : (assignEach elts (cEnv scope cl C env)).map (·.2) = xs.map fun x => assign (.Name x.1 x.2) (cEnv scope cl C env)) (hst : (assignEach elts (cEnv scope cl C env)).findIdx? (·.1) = none)
    (hk : ∀ x ∈ xs, (cEnv scope cl C env).kindOf x.1 = some .local) :
    Asg prog w A Y (fun a => a = C) (cEnv scope cl C env) cbs (.Tuple elts k pos) (.tuple ds) (tbNames (xs.map (·.1)) ds cbs) := fun _ _ _ _ sc r h =>
  assign_tuple (Pv := fun a => a = C) (env := cEnv scope cl C env) xs hh hf sc r hl he hst (fun x hx => .inl ⟨hk x hx, rfl⟩) h
noncomputable abbrev Tri := Int × Int × Int
noncomputable def tri (a : Tri) : PyData := .tuple [.int a.1, .int a.2.1, .int a.2.2]
noncomputable def beside (a v : Tri) : Tri := (3 * a.1 + v.1 + 1, 3 * a.2.1 + v.2.1 + 1, 3 * a.2.2 + v.2.2 + 1)
noncomputable def bes (R V : List Tri) : List Tri := R.flatMap fun a => V.map (beside a)
noncomputable def fBes : PyData → PyData → PyData
  | .tuple [.int p, .int q, .int r], .tuple [.int x, .int y, .int z] => .tuple [.int (3 * p + x + 1), .int (3 * q + y + 1), .int (3 * r + z + 1)]
  | _, _ => .none
noncomputable def tbP (cbs : List (Str × PyData)) : PyData → List (Str × PyData)
  | .tuple ds => tbNames [Str.ofString "p", Str.ofString "q", Str.ofString "r"] ds cbs
  | _ => cbs
noncomputable def tbX (cbs : List (Str × PyData)) : PyData → List (Str × PyData)
  | .tuple ds => tbNames [Str.ofString "x", Str.ofString "y", Str.ofString "z"] ds cbs
  | _ => cbs
theorem fBes_map (R V : List Tri) : ((R.map tri).flatMap fun d => (V.map tri).map (fBes d)) = (bes R V).map tri := by
  unfold bes
  rw [List.flatMap_map, List.map_flatMap]
  congr 1
  funext a
  rw [List.map_map, List.map_map]
  rfl
theorem fn_beside (T : Tp w hT) (R V : List Tri) (hl : R.length * V.length ≤ 1000000) (hV : V.length ≤ 1000000) : FN PR w hT 94 [.list (R.map tri), .list (V.map tri)] (.list ((bes R V).map tri)) 1 := by
  refine fn_intro (ps := [Str.ofString "rows", Str.ofString "votes"]) (T.k 94 _ rfl) rfl T.lim (codeRec_of T.k (by rfl)) rfl rfl rfl rfl ?_ ?_ rfl ?_
  · rintro s vals _ hl
    obtain ⟨v, u, rfl⟩ := len2 hl
    exact .of_eq rfl
  · intro n x hx; simp at hx; rcases hx with rfl | rfl
    · exact .inl rfl
    · exact .inr ⟨rfl, rfl⟩
  · intro A X s₀ L hA F
    have hh := hA.1
    rw [← fBes_map]
    refine st_ret F (ev_comp2 (cl := [(Str.ofString "votes", L + 1)]) (cbs := [(Str.ofString "votes", .list (V.map tri))]) (tb0 := tbP [(Str.ofString "votes", .list (V.map tri))]) (tb1 := fun d e => tbX (tbP [(Str.ofString "votes", .list (V.map tri))] d) e) (f := fBes)
      { clos := rfl, kind := rfl, names := by decide +kernel, cells := ?_, cap := ?_, asg0 := ?_, weak0 := ?_, src := ?_, asg1 := ?_, weak1 := ?_, elt := ?_, fold := fun _ _ => rfl, len := by simpa using hl, len2 := by simpa using hV } (sr_list hh (ev_name rfl)))
    · intro x c e
      have := PySem.mem_of_lookup e
      simp at this
      obtain ⟨rfl, rfl⟩ := this
      rfl
    · intro C
      refine by_mem (P := fun x d => _) ?_
      intro p hp
      simp at hp
      subst hp
      exact ⟨rfl, .inl rfl, .inl rfl, rfl⟩
    · intro C Y hC d hd
      obtain ⟨a, _, rfl⟩ := List.mem_map.mp hd
      exact asg_tupC [(Str.ofString "p", _), (Str.ofString "q", _), (Str.ofString "r", _)] hh rfl rfl rfl rfl (by intro x hx; simp at hx; rcases hx with rfl | rfl | rfl <;> rfl)
    · intro d hd x e q
      obtain ⟨a, _, rfl⟩ := List.mem_map.mp hd
      exact weak_cons rfl x e (weak_cons rfl x e (weak_cons rfl x e q))
    · intro C Y hC d hd
      obtain ⟨a, _, rfl⟩ := List.mem_map.mp hd
      exact sr_list hh (ev_name rfl)
    · intro C Y hC d hd e he
      obtain ⟨a, _, rfl⟩ := List.mem_map.mp hd
      obtain ⟨v, _, rfl⟩ := List.mem_map.mp he
      exact asg_tupC [(Str.ofString "x", _), (Str.ofString "y", _), (Str.ofString "z", _)] hh rfl rfl rfl rfl (by intro x hx; simp at hx; rcases hx with rfl | rfl | rfl <;> rfl)
    · intro d hd e he x u q
      obtain ⟨a, _, rfl⟩ := List.mem_map.mp hd
      obtain ⟨v, _, rfl⟩ := List.mem_map.mp he
      exact weak_cons rfl x u (weak_cons rfl x u (weak_cons rfl x u q))
    · intro C Y hC d hd e he
      obtain ⟨a, _, rfl⟩ := List.mem_map.mp hd
      obtain ⟨v, _, rfl⟩ := List.mem_map.mp he
      refine ev_tuple (evl_cons ?_ (evl_cons ?_ (evl_cons ?_ evl_nil)))
      · exact ev_bin (ev_bin (ev_bin ev_int (ev_name rfl) (op_mul (by decide))) (ev_name rfl) op_add) ev_int op_add
      · exact ev_bin (ev_bin (ev_bin ev_int (ev_name rfl) (op_mul (by decide))) (ev_name rfl) op_add) ev_int op_add
      · exact ev_bin (ev_bin (ev_bin ev_int (ev_name rfl) (op_mul (by decide))) (ev_name rfl) op_add) ev_int op_add
end Mine
end
section
open PySem PySem.W PyProof.Rows
set_option maxRecDepth 100000
set_option maxHeartbeats 4000000
namespace Mine
variable {prog : Program} {w : World} {hT : Heap} {A : Around} {X : Addr → Prop} {env : Env} {bs : List (Str × PyData)}
theorem ev_global {x : Str} {pos : Pos} {a : Addr} (hg : GN hT x (.ref a)) (hx : env.kindOf x = some .globalImplicit) (hgl : env.globals = mainGlobals) (hd : (x == ("__debug__" : Str)) = false := by decide) : EV prog w hT A X env bs (.Name x pos) (opq a) :=
  fun s _ ok => nm_global hg hx hgl ok ⟨keeps_refl s, .opq a⟩ hd
theorem EV.use {e : PySem.Expr} {d : PyData} {s : Shared} {E : Value → Shared → Prop} {Q : Value → Shared → Prop} (ok : Ok hT X env bs s.heap) (h : EV prog w hT A X env bs e d) (hQ : ∀ v s', Keeps s s' → Rp X s'.heap v d → Q v s') :
    wpAny (model prog w) A (eval e env) Q E s := wpAny_mono (h s E ok) (fun v s' q => hQ v s' q.1 q.2) fun _ _ e => e
/-- a call of a def that a name holds -/
theorem ev_callv {fn : Str} {p pos : Pos} {es : List PySem.Expr} {a : Addr} {ds : List PyData} {d : PyData} {k : Nat} (hn : bs.lookup fn = some (opq a))
    (hf : FN prog w hT a ds d k) (hA : ARoom k A) (hfd : ∃ o fd, hT.get? a = some o ∧ o.data = .func fd) (hargs : EVL prog w hT A X env bs es ds)
    (hne : ∃ x rest, backTo pos (starEach es env) = (false, x) :: rest := by exact ⟨_, _, rfl⟩) (hd : (fn == ("__debug__" : Str)) = false := by decide) (hc : (fn == ("__classdict__" : Str)) = false := by decide) :
    EV prog w hT A X env bs (.Call (.Name fn p) es [] pos) d := by
  intro s E ok
  refine wpAny_Call_Name_kw (wpAny_mono (ev_name (X := X) (pos := p) hn hd hc s E ok) ?_ fun _ _ e => e)
  rintro v s₀ ⟨k₀, r₀⟩
  have ok := ok.keeps k₀
  generalize hdd : opq a = dd at r₀
  cases r₀ with
  | opq a' =>
    have : a = a' := by
      have h1 : ((a : Nat) : Int) = ((a' : Nat) : Int) := by
        have := PyData.dict.inj hdd
        have := (List.cons.inj this).1
        exact PyData.int.inj (Prod.mk.inj this).1
      exact Int.ofNat_inj.mp h1
    subst this
    obtain ⟨o, fd, ho, hfd⟩ := hfd
    refine Calls.callWith_function (o := o) (fd := fd) (args_evl hargs ok hne fun vs s₁ k₁ r₁ => ⟨⟨ok.top.trans (keeps_grow k₁) _ _ ho, hfd⟩, ?_⟩)
    refine wpAny_call (hf A X s₁ _ vs hA (ok.keeps k₁).top (ok.keeps k₁).xi r₁ fun v s₂ k₂ r₂ => ⟨keeps_trans k₀ (keeps_trans k₁ k₂), r₂⟩)
  | _ => cases hdd
theorem iter_list {s : Shared} {E : Value → Shared → Prop} {v : Value} {ds : List PyData} (r : Rp X s.heap v (.list ds)) :
    wpAny (model prog w) A (pyIter v) (fun it s₂ => ∃ I St, it = .ref I ∧ s.heap.get? I = none ∧ Keeps s s₂ ∧ (∀ A' : Around, A'.handled = none → WkX prog w A' I ds St) ∧ St X 0 s₂.heap) E s := by
  cases r with
  | @list a vs n _ e1 n1 r1 =>
    have l1 := r1.length
    simp only [Array.length_toList] at l1
    refine wpAny_pyIter_list ⟨_, e1, rfl, _, rfl⟩ ?_
    have g := grow_push s.heap { cls := .type "list_iterator", data := .fields #[.ref a, .int 0 0] }
    refine ⟨s.heap.objs.size, _, rfl, none_of_lt (Grow.refl _) (Nat.le_refl _), ⟨_, s.toks, rfl, g⟩,
      fun A' hh => wkx_seq (J := fun i h => h.IsListIter s.heap.objs.size a i ∧ h.IsList a vs) (Nat.ne_of_lt (Heap.lt_size e1)) (Walks.list hh _ _ (Nat.ne_of_lt (Heap.lt_size e1)) vs) (fun i h ⟨⟨o, ho, hc, hd⟩, _⟩ => ⟨o, _, _, ho, hd, hc, rfl⟩)
        (fun i h ⟨_, ⟨o, ho, _, n, hd⟩⟩ => ⟨o, n, ho, hd⟩) l1, ⟨⟨_, Heap.get?_push_size _ rfl, rfl, rfl⟩, ⟨_, g _ _ e1, rfl, _, rfl⟩⟩, r1.grow g, n1⟩
theorem fn_reduce (T : Tp w hT) (acc : Nat → PyData) (ds : List PyData) (xs : List PyData) (hacc0 : acc 0 = .list xs) (hf : ∀ i e, ds[i]? = some e → FN PR w hT 94 [acc i, e] (acc (i + 1)) 1) : FN PR w hT 70 [opq 94, .list ds, acc 0] (acc ds.length) 2 := by
  refine fn_intro (ps := [Str.ofString "function", Str.ofString "sequence", Str.ofString "initial"]) (T.k 70 _ rfl) rfl T.lim (codeRec_of T.k (by rfl)) rfl rfl rfl rfl ?_ ?_ rfl ?_
  · rintro s vals g hl
    obtain ⟨v, u, z, rfl⟩ := len3 hl
    exact .of_defaults rfl (g _ _ (T.k 63 _ rfl)) rfl rfl rfl
  · intro n x hx; simp at hx; rcases hx with rfl | rfl | rfl <;> exact .inl rfl
  · intro A X s₀ L hA F s E hsc k
    have hh := hA.1
    have ok := F.ok (hT := hT) hsc k
    -- it = iter(sequence)
    refine wpAny_execs_cons (wpAny_Assign_Name (wpAny_Call_Name_kw (nm_builtin T.bn.2.2.2.2.1 rfl F.glob F.blt ok ?_)))
    refine Calls.callWith_builtin rfl (args_evl (evl_cons (ev_name (d := .list ds) rfl) evl_nil) ok ⟨_, _, rfl⟩ fun vs s₁ k₁ r₁ => ?_)
    have ok₁ := ok.keeps k₁
    cases r₁ with
    | cons r1 r2 =>
    cases r2
    have hl := r1
    cases r1 with
    | @list a items n _ e1 n1 r1 =>
    refine Calls.call_function_entry (by decide +kernel) (by decide +kernel) kdk_entry_iter (kdk_args_iter _) ?_
    unfold Builtin.«iter»
    refine wpAny_bind (m := someArgs "iter" 1 2 _) (wpAny_of_eq (a := [Value.ref a]) (by first | rfl | kernel_rfl) ?_)
    show wpAny _ _ (pyIter (.ref a) >>= _) _ _ _
    refine wpAny_bind (wpAny_mono (iter_list (X := X) hl) ?_ fun _ _ e => e)
    rintro it s₂ ⟨I, St, rfl, hIn, k₂, W, st⟩
    refine wpAny_pure ⟨_, rfl, ?_⟩
    have W := W A hh
    have ok₂ := ok₁.keeps k₂
    refine sc_store F.kind ok₂.sc (.opq I) (F.storeL rfl) fun s₃ sc₃ mv₃ c₃ => ?_
    have kp₃ := mv₃.keeps (keeps_trans k (keeps_trans k₁ k₂)) F.priv
    have ok₃ := F.ok (hT := hT) sc₃ kp₃
    have hI₁ : ∀ a, PvE (callEnvC _ L 70) a → a ≠ I := fun a q z => by
      subst z
      obtain ⟨m, cm, hn, hc, _⟩ := ok₁.sc
      rcases q with q | ⟨n, q⟩
      · obtain ⟨o, _, _, e, _⟩ := hn; rw [← q, hIn] at e; cases e
      · obtain ⟨o, e, _⟩ := hc n a q; rw [hIn] at e; cases e
    have hI0 : s₀.heap.get? I = none := by
      cases q : s₀.heap.get? I with
      | none => rfl
      | some o => rw [keeps_grow (keeps_trans k k₁) _ _ q] at hIn; cases hIn
    have st₃ := (W.wk X).frame _ _ _ st c₃ fun o e => mv₃.get I o (fun z => hI₁ _ z rfl) e
    -- initial is not missing
    refine wpAny_execs_cons (wpAny_If (wpAny_isTrue_Compare1 (EV.use ok₃ (ev_name (d := acc 0) rfl) fun vi s₄ k₄ r₄ => ?_)))
    have ok₄ := ok₃.keeps k₄
    refine nm_global T.gn.2.2.2.2.2.2.2.2.2.2 rfl F.glob ok₄ ?_
    rw [hacc0] at r₄
    cases r₄ with
    | @list ai itemsi ni _ ei n1i ri =>
    have e62 := ok₄.top _ _ (T.k 62 _ rfl)
    refine kto_is ei e62 (fun q => by subst q; rw [ei] at e62; exact absurd (congrArg (fun o => o.map (·.cls)) e62) (by simp)) (by simp) ?_
    refine wpAny_truthy_bool ?_
    rw [if_neg (by decide)]
    -- value = initial
    refine wpAny_execs_cons (wpAny_Assign_Name (EV.use ok₄ (ev_name (d := acc 0) rfl) fun v5 s₅ k₅ r₅ => ?_))
    refine sc_store F.kind (ok₄.keeps k₅).sc r₅ (F.storeL rfl) fun s₆ sc₆ mv₆ c₆ => wpAny_execs_nil ?_
    have kp₅ := keeps_trans kp₃ (keeps_trans k₄ k₅)
    have kp₆ := mv₆.keeps kp₅ F.priv
    have g₅ := (keeps_grow k₄).trans (keeps_grow k₅)
    have st₅ := (W.wk X).frame _ _ _ st₃ (calm_grow g₅) fun o e => g₅ I o e
    have st₆ := (W.wk X).frame _ _ _ st₅ c₆ fun o e => mv₆.get I o (fun z => hI₁ _ z rfl) e
    have ok₆ := F.ok (hT := hT) sc₆ kp₆
    -- the loop
    refine wpAny_execs_cons (wpAny_For (EV.use ok₆ (ev_name (d := opq I) rfl) fun v7 s₇ k₇ r₇ => ?_))
    generalize hdd : opq I = dd at r₇
    cases r₇ with
    | opq a' =>
      have : I = a' := by
        have h1 : ((I : Nat) : Int) = ((a' : Nat) : Int) := by
          have := PyData.dict.inj hdd
          have := (List.cons.inj this).1
          exact PyData.int.inj (Prod.mk.inj this).1
        exact Int.ofNat_inj.mp h1
      subst this
      have st₇ := (W.wk X).frame _ _ _ st₆ (calm_grow (keeps_grow k₇)) fun o e => keeps_grow k₇ I o e
      have kp₇ := keeps_trans kp₆ k₇
      refine (W.wk X).self 0 _ _ _ st₇ ?_
      refine codeAny_forLoop_any (fun n s' => ∃ i, i ≤ ds.length ∧ n = ds.length + 1 - i ∧ Keeps s₀ s' ∧ St X i s'.heap ∧ Sc X (callEnvC _ L 70) [(Str.ofString "value", acc i), (Str.ofString "function", opq 94)] s'.heap) ?_ (ds.length + 1)
        ⟨0, Nat.zero_le _, rfl, kp₇, st₇, (sc₆.grow (keeps_grow k₇)).weak ?_⟩
      · rintro n s' ⟨i, hi, rfl, kp, st, sc⟩
        obtain ⟨oI, fs, hI, hIf⟩ := (W.wk X).fields _ _ st
        by_cases hlt : i < ds.length
        · have hd : ds[i]? = some ds[i] := by simp
          refine (W.wk X).item i s' _ _ ds[i] hd st fun v h₁ tk₁ rv st₁ k₁ => ?_
          have c₁ : Calm X s'.heap h₁ := calm_fields hI hIf k₁
          have sc₁ := sc.but hI (fun _ _ q => by rw [hIf] at q; cases q) (fun _ q => by rw [hIf] at q; cases q) c₁ k₁
          have mv₁ : Mv (fun a => a = I) s' { s' with heap := h₁, toks := tk₁ } := ⟨h₁, tk₁, rfl, k₁⟩
          have kp₁ := mv₁.keeps kp fun a q => by subst q; exact hI0
          refine (W.wk X).owns _ _ _ _ _ _ st₁ ?_
          refine assign_name (Pv := PvE (callEnvC _ L 70)) F.kind sc₁ rv (F.storeL rfl) fun s₂ sc₂ mv₂ c₂ => ?_
          have kp₂ := mv₂.keeps kp₁ F.priv
          have st₂ := (W.wk X).frame _ _ _ st₁ c₂ fun o e => mv₂.get I o (fun z => hI₁ _ z rfl) e
          have ok₂ := F.ok (hT := hT) sc₂ kp₂
          refine wpAny_execs_cons (wpAny_Assign_Name (EV.use ok₂ (ev_callv (a := 94) rfl (hf i _ hd) hA ⟨_, _, T.k 94 _ rfl, rfl⟩ (evl_cons (ev_name rfl) (evl_cons (ev_name rfl) evl_nil))) fun v8 s₈ k₈ r₈ => ?_))
          refine sc_store F.kind (ok₂.keeps k₈).sc r₈ (F.storeL rfl) fun s₉ sc₉ mv₉ c₉ => wpAny_execs_nil ?_
          have st₈ := (W.wk X).frame _ _ _ st₂ (calm_grow (keeps_grow k₈)) fun o e => keeps_grow k₈ I o e
          have st₉ := (W.wk X).frame _ _ _ st₈ c₉ fun o e => mv₉.get I o (fun z => hI₁ _ z rfl) e
          refine ⟨ds.length + 1 - (i + 1), by omega, i + 1, hlt, rfl, mv₉.keeps (keeps_trans kp₂ k₈) F.priv, st₉, sc₉.weak ?_⟩
          refine by_mem (P := fun x d => _) ?_
          intro p hp
          simp at hp
          rcases hp with rfl | rfl <;> rfl
        · have hi' : i = ds.length := by omega
          subst hi'
          refine (W.wk X).done s' _ _ st fun h₁ tk₁ k₁ => wpAny_execs_nil ?_
          have c₁ : Calm X s'.heap h₁ := calm_fields hI hIf k₁
          have sc₁ := sc.but hI (fun _ _ q => by rw [hIf] at q; cases q) (fun _ q => by rw [hIf] at q; cases q) c₁ k₁
          have mv₁ : Mv (fun a => a = I) s' { s' with heap := h₁, toks := tk₁ } := ⟨h₁, tk₁, rfl, k₁⟩
          have kp₁ := mv₁.keeps kp fun a q => by subst q; exact hI0
          exact st_ret F (ev_name (d := acc ds.length) rfl) _ _ sc₁ kp₁
      · refine by_mem (P := fun x d => _) ?_
        intro p hp
        simp at hp
        rcases hp with rfl | rfl <;> rfl
    | _ => cases hdd
end Mine
end
section
open PySem PySem.W PyProof.Rows
namespace Mine
variable {prog : Program} {w : World} {hT : Heap} {A : Around} {X : Addr → Prop} {env : Env} {bs : List (Str × PyData)}
/-- a list of one's own -/
noncomputable def OwnL (X : Addr → Prop) (h : Heap) (P : Addr) (ds : List PyData) : Prop := ∃ vs n, h.get? P = some { cls := .type "list", data := .seq vs n } ∧ RpL X h vs.toList ds
theorem OwnL.grow {h h' : Heap} {P : Addr} {ds : List PyData} (o : OwnL X h P ds) (g : Grow h h') : OwnL X h' P ds := let ⟨vs, n, e, r⟩ := o; ⟨vs, n, g _ _ e, r.grow g⟩
theorem OwnL.calm {h h' : Heap} {P : Addr} {ds : List PyData} (o : OwnL X h P ds) (c : Calm X h h') (k : ∀ o, h.get? P = some o → h'.get? P = some o) : OwnL X h' P ds := let ⟨vs, n, e, r⟩ := o; ⟨vs, n, k _ e, r.calm c⟩
noncomputable abbrev Own : Type := List (Addr × List PyData)
noncomputable abbrev Bs : Type := List (Str × PyData)
/-- what stands fast in a frame with lists of its own -/
structure FO (hT : Heap) (X : Addr → Prop) (env : Env) (ps : Addr → Prop) (s₀ : Shared) : Prop where
  kind : env.scope.kind = .function
  top : Grow hT s₀.heap
  priv : ∀ a, PvE env a → s₀.heap.get? a = none
  glob : env.globals = mainGlobals
  blt : env.builtins = builtinsNs
  apart : ∀ x y c c', env.cells.lookup x = some c → env.cells.lookup y = some c' → x ≠ y → c ≠ c'
  psT : ∀ a, ps a → hT.get? a = none
  psX : ∀ a, ps a → X a
  xp : ∀ a, X a → ¬ PvE env a
structure FI (hT : Heap) (X : Addr → Prop) (env : Env) (ps : Addr → Prop) (s₀ : Shared) (bs : Bs) (ow : Own) (s : Shared) : Prop where
  mv : Mv ps s₀ s
  ok : Ok hT X env bs s.heap
  own : ∀ p ∈ ow, ps p.1 ∧ OwnL X s.heap p.1 p.2
variable {ps : Addr → Prop} {s₀ : Shared} {ow : Own}
theorem FO.storeL (_F : FO hT X env ps s₀) {x : Str} (h : env.kindOf x = some .local) : StoreAt (PvE env) env x := .inl ⟨h, .inl rfl⟩
theorem FO.none_of (F : FO hT X env ps s₀) {s : Shared} (i : FI hT X env ps s₀ bs ow s) {a : Addr} (e : s.heap.get? a = none) : s₀.heap.get? a = none := by
  cases q : s₀.heap.get? a with
  | none => rfl
  | some o =>
    exfalso
    by_cases p : ps a
    · obtain ⟨o', e'⟩ := i.ok.xi a (F.psX a p)
      rw [e] at e'; cases e'
    · have := i.mv.get a o p q
      rw [e] at this; cases this
theorem FI.keeps {s s' : Shared} (i : FI hT X env ps s₀ bs ow s) (k : Keeps s s') : FI hT X env ps s₀ bs ow s' :=
  ⟨i.mv.trans (Mv.of k), i.ok.keeps k, fun p hp => ⟨(i.own p hp).1, (i.own p hp).2.grow (keeps_grow k)⟩⟩
theorem FI.weak {s : Shared} {bs' : Bs} (i : FI hT X env ps s₀ bs ow s) (k : ∀ x d, bs'.lookup x = some d → bs.lookup x = some d) : FI hT X env ps s₀ bs' ow s :=
  ⟨i.mv, ⟨i.ok.kind, i.ok.sc.weak k, i.ok.top, i.ok.xi⟩, i.own⟩
/-- iterators go on -/
theorem FI.iter (F : FO hT X env ps s₀) {s : Shared} {h : Heap} {tk : Nat} {wr : List Addr} (i : FI hT X env ps s₀ bs ow s) (hn : ∀ a ∈ wr, s₀.heap.get? a = none) (hf : ∀ a ∈ wr, ∃ o fs, s.heap.get? a = some o ∧ o.data = .fields fs)
    (hx : ∀ a ∈ wr, ¬ X a)
    (k : ∀ b o, b ∉ wr → s.heap.get? b = some o → h.get? b = some o) : FI hT X env ps s₀ bs ow { s with heap := h, toks := tk } ∧ Calm X s.heap h := by
  have calm : Calm X s.heap h := fun a o vs n x c e => by
    refine k a o (fun q => ?_) e
    obtain ⟨o', fs, e', d⟩ := hf a q
    rw [e] at e'; cases e'; rw [c] at d; cases d
  refine ⟨⟨?_, ⟨i.ok.kind, ?_, fun b o e => ?_, fun a xa => ?_⟩, fun p hp => ⟨(i.own p hp).1, (i.own p hp).2.calm calm fun o e => ?_⟩⟩, calm⟩
  · obtain ⟨h₁, t₁, rfl, g⟩ := i.mv
    exact ⟨h, tk, rfl, fun b o nb e => k b o (fun q => by rw [hn b q] at e; cases e) (g b o nb e)⟩
  · obtain ⟨m, cm, a, b, c⟩ := i.ok.sc
    refine ⟨m, cm, a.at' fun o' e => k _ o' (fun z => ?_) e, fun n c' e => ?_, fun x d e => let ⟨v, r, z⟩ := c x d e; ⟨v, r.calm calm, z⟩⟩
    · obtain ⟨o₁, fs, e₁, d₁⟩ := hf _ z
      obtain ⟨o₂, _, _, e₂, d₂, _⟩ := a
      rw [e₁] at e₂; cases e₂; rw [d₁] at d₂; cases d₂
    · obtain ⟨o₂, e₂, d₂⟩ := b n c' e
      refine ⟨o₂, k _ _ (fun z => ?_) e₂, d₂⟩
      obtain ⟨o₁, fs, e₁, d₁⟩ := hf _ z
      rw [e₁] at e₂; cases e₂; rw [d₁] at d₂; cases d₂
  · exact k b o (fun q => by have := F.top b o e; rw [hn b q] at this; cases this) (i.ok.top b o e)
  · by_cases q : a ∈ wr
    · exact absurd xa (hx a q)
    · obtain ⟨o, e⟩ := i.ok.xi a xa
      exact ⟨o, k a o q e⟩
  · refine k _ o (fun q => ?_) e
    obtain ⟨vs, n, e₁, _⟩ := (i.own p hp).2
    obtain ⟨o₁, fs, e₂, d₂⟩ := hf _ q
    rw [e₁] at e₂; cases e₂; cases d₂
/-- a name is stored -/
theorem FI.stored (F : FO hT X env ps s₀) {s s' : Shared} {bs' : Bs} (i : FI hT X env ps s₀ bs ow s) (sc : Sc X env bs' s'.heap) (mv : Mv (PvE env) s s') (c : Calm X s.heap s'.heap) : FI hT X env ps s₀ bs' ow s' := by
  refine ⟨?_, ⟨i.ok.kind, sc, fun b o e => ?_, fun a xa => ?_⟩, fun p hp => ⟨(i.own p hp).1, (i.own p hp).2.calm c fun o e => ?_⟩⟩
  · obtain ⟨h₁, t₁, rfl, g⟩ := i.mv
    obtain ⟨h₂, t₂, rfl, g'⟩ := mv
    exact ⟨h₂, t₂, rfl, fun b o nb e => g' b o (fun q => by rw [F.priv b q] at e; cases e) (g b o nb e)⟩
  · exact mv.get b o (fun q => by have := F.top b o e; rw [F.priv b q] at this; cases this) (i.ok.top b o e)
  · obtain ⟨o, e⟩ := i.ok.xi a xa
    exact ⟨o, mv.get a o (F.xp a xa) e⟩
  · exact mv.get _ o (F.xp _ (F.psX _ (i.own p hp).1)) e
/-- a list of one's own is turned -/
theorem FI.turned (F : FO hT X env ps s₀) {s : Shared} {h : Heap} {P : Addr} {ds ds' : List PyData} (i : FI hT X env ps s₀ bs ((P, ds) :: ow) s) (hP : ∀ q ∈ ow, q.1 ≠ P) (hs : Heap.SameBut P s.heap h) {vs : Array Value} {n : Nat}
    (e : h.get? P = some { cls := .type "list", data := .seq vs n }) (r : RpL X s.heap vs.toList ds') : FI hT X env ps s₀ bs ((P, ds') :: ow) { s with heap := h } := by
  have hp := (i.own (P, ds) (.head _)).1
  have calm : Calm X s.heap h := fun a o vs n x c e => (hs.2 a fun q => by subst q; exact x (F.psX _ hp)).trans e
  obtain ⟨vs₀, n₀, e₀, _⟩ := (i.own (P, ds) (.head _)).2
  refine ⟨?_, ⟨i.ok.kind, ?_, fun b o q => ?_, fun a xa => ?_⟩, fun p hp' => ?_⟩
  · obtain ⟨h₁, t₁, rfl, g⟩ := i.mv
    exact ⟨h, _, rfl, fun b o nb q => (hs.2 b fun z => by subst z; exact nb hp).trans (g b o nb q)⟩
  · obtain ⟨m, cm, a, b, c⟩ := i.ok.sc
    refine ⟨m, cm, a.sameBut hs fun z => ?_, fun n c' q => (b n c' q).sameBut hs fun z => ?_, fun x d q => let ⟨v, r, z⟩ := c x d q; ⟨v, r.calm calm, z⟩⟩
    · obtain ⟨o₂, _, _, e₂, d₂, _⟩ := a
      rw [z, e₀] at e₂; cases e₂; cases d₂
    · obtain ⟨o₂, e₂, d₂⟩ := b n c' q
      rw [z, e₀] at e₂; cases e₂; cases d₂
  · exact (hs.2 b fun z => by subst z; rw [F.psT _ hp] at q; cases q).trans (i.ok.top b o q)
  · by_cases q : a = P
    · subst q; exact ⟨_, e⟩
    · obtain ⟨o, z⟩ := i.ok.xi a xa
      exact ⟨o, (hs.2 a q).trans z⟩
  · rcases List.mem_cons.mp hp' with rfl | hm
    · exact ⟨hp, vs, n, e, r.calm calm⟩
    · have := i.own p (.tail _ hm)
      exact ⟨this.1, this.2.calm calm fun o z => (hs.2 _ (hP p hm)).trans z⟩
/-- all but the frame's own and ps is kept -/
noncomputable abbrev MvF (env : Env) (ps : Addr → Prop) (s s' : Shared) : Prop := Mv (fun a => PvE env a ∨ ps a) s s'
noncomputable def flow (br : Bool) : Flow := if br then .brk else .next
noncomputable def SS (prog : Program) (w : World) (hT : Heap) (A : Around) (X : Addr → Prop) (env : Env) (ps : Addr → Prop) (s₀ : Shared) (bs : Bs) (ow : Own) (st : PySem.Stmt) (br : Bool) (bs' : Bs) (ow' : Own) : Prop :=
  ∀ (s : Shared) (E : Value → Shared → Prop), FI hT X env ps s₀ bs ow s → wpAny (model prog w) A (exec st env) (fun fl s' => MvF env ps s s' ∧ fl = flow br ∧ FI hT X env ps s₀ bs' ow' s') E s
noncomputable def SB (prog : Program) (w : World) (hT : Heap) (A : Around) (X : Addr → Prop) (env : Env) (ps : Addr → Prop) (s₀ : Shared) (bs : Bs) (ow : Own) (body : List PySem.Stmt) (br : Bool) (bs' : Bs) (ow' : Own) : Prop :=
  ∀ (s : Shared) (E : Value → Shared → Prop), FI hT X env ps s₀ bs ow s → wpAny (model prog w) A (execs body env) (fun fl s' => MvF env ps s s' ∧ fl = flow br ∧ FI hT X env ps s₀ bs' ow' s') E s
theorem sb_nil {bs' : Bs} (hw : ∀ x d, bs'.lookup x = some d → bs.lookup x = some d) : SB prog w hT A X env ps s₀ bs ow [] false bs' ow := fun s _ i => wpAny_execs_nil ⟨Mv.of (keeps_refl s), rfl, i.weak hw⟩
theorem sb_cons {st : PySem.Stmt} {rest : List PySem.Stmt} {bs₁ bs' : Bs} {ow₁ ow' : Own} {br : Bool} (h : SS prog w hT A X env ps s₀ bs ow st false bs₁ ow₁) (hr : SB prog w hT A X env ps s₀ bs₁ ow₁ rest br bs' ow') : SB prog w hT A X env ps s₀ bs ow (st :: rest) br bs' ow' := by
  intro s E i
  refine wpAny_execs_cons (wpAny_mono (h s E i) ?_ fun _ _ e => e)
  rintro fl s₁ ⟨mv, rfl, i₁⟩
  refine wpAny_mono (hr s₁ E i₁) ?_ fun _ _ e => e
  rintro fl s₂ ⟨mv₂, e, i₂⟩
  exact ⟨mv.trans mv₂, e, i₂⟩
/-- a step that breaks, or the last one -/
theorem sb_last {st : PySem.Stmt} {rest : List PySem.Stmt} {bs' : Bs} {ow' : Own} {br : Bool} (h : SS prog w hT A X env ps s₀ bs ow st br bs' ow') (hr : br = true ∨ rest = []) : SB prog w hT A X env ps s₀ bs ow (st :: rest) br bs' ow' := by
  intro s E i
  refine wpAny_execs_cons (wpAny_mono (h s E i) ?_ fun _ _ e => e)
  rintro fl s₁ ⟨mv, rfl, i₁⟩
  cases br with
  | true => exact ⟨mv, rfl, i₁⟩
  | false =>
    rcases hr with q | rfl
    · cases q
    · exact wpAny_execs_nil ⟨mv, rfl, i₁⟩
theorem ss_break {pos : Pos} {bs' : Bs} (hw : ∀ x d, bs'.lookup x = some d → bs.lookup x = some d) : SS prog w hT A X env ps s₀ bs ow (.Break pos) true bs' ow := fun s _ i => wpAny_Break ⟨Mv.of (keeps_refl s), rfl, i.weak hw⟩
theorem ss_if {t : PySem.Expr} {body orelse : List PySem.Stmt} {pos : Pos} {c br : Bool} {bs' : Bs} {ow' : Own} (ht : TR prog w hT A X env bs t c) (hb : c = true → SB prog w hT A X env ps s₀ bs ow body br bs' ow')
    (he : c = false → SB prog w hT A X env ps s₀ bs ow orelse br bs' ow') : SS prog w hT A X env ps s₀ bs ow (.If t body orelse pos) br bs' ow' := by
  intro s E i
  refine wpAny_If (wpAny_mono (ht s E i.ok) ?_ fun _ _ e => e)
  rintro b s₁ ⟨rfl, k₁⟩
  have post : ∀ fl s₂, (MvF env ps s₁ s₂ ∧ fl = flow br ∧ FI hT X env ps s₀ bs' ow' s₂) → MvF env ps s s₂ ∧ fl = flow br ∧ FI hT X env ps s₀ bs' ow' s₂ := fun fl s₂ q => ⟨(Mv.of k₁).trans q.1, q.2⟩
  cases b with
  | true => rw [if_pos rfl]; exact wpAny_mono (hb rfl s₁ E (i.keeps k₁)) post fun _ _ e => e
  | false => rw [if_neg (by decide)]; exact wpAny_mono (he rfl s₁ E (i.keeps k₁)) post fun _ _ e => e
theorem ss_assign {e : PySem.Expr} {x : Str} {p pos : Pos} {d : PyData} (F : FO hT X env ps s₀) (he : EV prog w hT A X env bs e d) (hs : StoreAt (PvE env) env x) (hsw : swapsWith e (some (.Name x p)) pos.line env = pure false := by rfl) :
    SS prog w hT A X env ps s₀ bs ow (.Assign [.Name x p] e pos) false ((x, d) :: bs) ow := by
  intro s E i
  refine wpAny_Assign_Name (wpAny_mono (he s E i.ok) ?_ fun _ _ e => e) hsw
  rintro v s₁ ⟨k₁, r₁⟩
  refine sc_store F.kind (i.keeps k₁).ok.sc r₁ hs fun s₂ sc₂ mv₂ c₂ => ?_
  exact ⟨(Mv.of k₁).trans (mv₂.more fun a q => .inl q), rfl, (i.keeps k₁).stored F sc₂ mv₂ c₂⟩
theorem opq_inj {a b : Addr} (h : opq a = opq b) : a = b := by
  have := PyData.dict.inj h
  have := (List.cons.inj this).1
  exact Int.ofNat_inj.mp (PyData.int.inj (Prod.mk.inj this).1)
theorem rp_opq {h : Heap} {v : Value} {a : Addr} (r : Rp X h v (opq a)) : v = .ref a := by
  generalize hdd : opq a = dd at r
  cases r with
  | opq a' => rw [opq_inj hdd]
  | _ => cases hdd
theorem ss_append {x : Str} {p ap cp pos : Pos} {elt : PySem.Expr} {P : Addr} {ds : List PyData} {d : PyData} (F : FO hT X env ps s₀) (hx : bs.lookup x = some (opq P)) (he : EV prog w hT A X env bs elt d) (hP : ∀ q ∈ ow, q.1 ≠ P) (hlen : ds.length ≤ 1000)
    (hbase : attributeBase (.Name x p) "append" env (eval (.Name x p) env) = eval (.Name x p) env := by rfl)
    (hfew : ((backTo cp (starEach [elt] env)).all (fun x => !x.1) && (backToKw cp (keywordEach [] env)).all (fun x => x.1.isSome) && decide (([elt] : List PySem.Expr).length + ([] : List Keyword).length + (if ([] : List Keyword).isEmpty then 0 else 1) < 30)) = true := by rfl)
    (hline : (ap.endLine == cp.line) = true := by rfl) (htrees : backTo cp (starEach [elt] env) = [(false, eval elt env)] := by rfl) (hi : interactive env = false := by rfl)
    (hsw : swapsWith (.Call (.Attribute (.Name x p) "append" ap) [elt] [] cp) none pos.line env = pure false := by rfl) (hd : (x == ("__debug__" : Str)) = false := by decide) (hc : (x == ("__classdict__" : Str)) = false := by decide) :
    SS prog w hT A X env ps s₀ bs ((P, ds) :: ow) (.Expr (.Call (.Attribute (.Name x p) "append" ap) [elt] [] cp) pos) false bs ((P, ds ++ [d]) :: ow) := by
  intro s E i
  refine wpAny_Expr (wpAny_Call_append hbase hfew hline htrees (wpAny_mono (ev_name (X := X) (pos := p) hx hd hc s E i.ok) ?_ fun _ _ e => e)) hi hsw
  rintro v s₁ ⟨k₁, r₁⟩
  have i₁ := i.keeps k₁
  cases rp_opq r₁
  obtain ⟨vs₁, n₁, e₁, _⟩ := (i₁.own (P, ds) (.head _)).2
  refine ⟨P, vs₁, rfl, ⟨_, _, e₁, rfl, rfl, rfl⟩, wpAny_mono (he s₁ E i₁.ok) ?_ fun _ _ e => e⟩
  rintro y s₂ ⟨k₂, r₂⟩
  have i₂ := i₁.keeps k₂
  obtain ⟨vs₂, n₂, e₂, rl₂⟩ := (i₂.own (P, ds) (.head _)).2
  have hl := rl₂.length
  simp only [Array.length_toList] at hl
  refine wpAny_list_append_plain (hsz := by show _ ≤ 2 ^ 24; omega) ⟨_, e₂⟩ fun h' ⟨n, ho⟩ hs => ?_
  have hp := (i.own (P, ds) (.head _)).1
  exact ⟨(Mv.of k₁).trans ((Mv.of k₂).trans ⟨h', _, rfl, fun b o nb q => (hs.2 b fun z => nb (.inr (z ▸ hp))).trans q⟩), rfl, i₂.turned F hP hs ho (by
    rw [Array.toList_push]; exact rl₂.append (.cons r₂ .nil))⟩
/-- an iterator over data that may turn several objects of its own -/
structure Wk2 (prog : Program) (w : World) (A : Around) (X : Addr → Prop) (t : PySem.Expr) (I : Addr) (wr : List Addr) (ds : List PyData) (St : Nat → Heap → Prop) (Sv : Nat → Value → Heap → Prop) : Prop where
  frame : ∀ i h h', St i h → Calm X h h' → (∀ a ∈ wr, ∀ o, h.get? a = some o → h'.get? a = some o) → St i h'
  item : ∀ i (s : Shared) (Q : Option Value → Shared → Prop) (E : Value → Shared → Prop) d, XI X s.heap → ds[i]? = some d → St i s.heap →
    (∀ v h' tk, Rp X h' v d → Sv (i + 1) v h' → (∀ b o, b ∉ wr → s.heap.get? b = some o → h'.get? b = some o) → Q (some v) { s with heap := h', toks := tk }) → wpAny (model prog w) A (pyNext (.ref I)) Q E s
  done : ∀ (s : Shared) (Q : Option Value → Shared → Prop) (E : Value → Shared → Prop), St ds.length s.heap →
    (∀ h' tk, (∀ b o, b ∉ wr → s.heap.get? b = some o → h'.get? b = some o) → Q none { s with heap := h', toks := tk }) → wpAny (model prog w) A (pyNext (.ref I)) Q E s
  fields : ∀ i h, St i h → ∀ a ∈ wr, ∃ o fs, h.get? a = some o ∧ o.data = .fields fs
  fieldsv : ∀ i v h, Sv i v h → ∀ a ∈ wr, ∃ o fs, h.get? a = some o ∧ o.data = .fields fs
  owns : ∀ i (s : Shared) (v : Value) (Q : Unit → Shared → Prop) (E : Value → Shared → Prop), Sv i v s.heap →
    (∀ h', (∀ b o, b ∉ wr → s.heap.get? b = some o → h'.get? b = some o) → St i h' → Q () { s with heap := h' }) → wpAny (model prog w) A (letOwnedTupleGo t (.ref I) v) Q E s
/-- what a loop runs over -/
noncomputable def SR2 (prog : Program) (w : World) (hT : Heap) (A : Around) (X : Addr → Prop) (env : Env) (bs : List (Str × PyData)) (t e : PySem.Expr) (ds : List PyData) : Prop :=
  ∀ (s : Shared) (E : Value → Shared → Prop), Ok hT X env bs s.heap → wpAny (model prog w) A (eval e env) (fun x s₁ => wpAny (model prog w) A (pyIter x) (fun it s₂ =>
    ∃ I wr St Sv, it = .ref I ∧ (∀ a ∈ wr, s.heap.get? a = none) ∧ Keeps s s₂ ∧ Wk2 prog w A X t I wr ds St Sv ∧ St 0 s₂.heap) E s₁) E s
theorem SR.two {t e : PySem.Expr} {ds : List PyData}
    (h : SR prog w hT A X env bs e ds) : SR2 prog w hT A X env bs t e ds := by
  intro s E ok
  refine wpAny_mono (h s E ok) (fun x s₁ h₁ => wpAny_mono h₁ ?_ fun _ _ e => e) fun _ _ e => e
  rintro it s₂ ⟨I, St, rfl, hn, k, W, st⟩
  have W' := W.wk X
  refine ⟨I, [I], St X, fun i _ h => St X i h, rfl, by simpa using hn, k, ?_, st⟩
  exact {
    frame := fun i h h' st c k => W'.frame i h h' st c (k I (by simp))
    item := fun i s Q E d _ hd st hQ => W'.item i s Q E d hd st fun v h' tk r st' k => hQ v h' tk r st' fun b o nb e => k b o (by simpa using nb) e
    done := fun s Q E st hQ => W'.done s Q E st fun h' tk k => hQ h' tk (fun b o nb e => k b o (by simpa using nb) e)
    fields := fun i h st a ha => by simp at ha; subst ha; exact W'.fields i h st
    fieldsv := fun i _ h st a ha => by simp at ha; subst ha; exact W'.fields i h st
    owns := fun i s v Q E st hQ => W'.owns i s t v Q E st (hQ s.heap (fun _ _ _ e => e) st) }
/-- how a target takes a value in a frame -/
noncomputable def AsgF (prog : Program) (w : World) (A : Around) (X : Addr → Prop) (env : Env) (bs : Bs) (target : PySem.Expr) (d : PyData) (tb : Bs) : Prop :=
  ∀ (s : Shared) (v : Value) (E : Value → Shared → Prop) (Q : Unit → Shared → Prop), Sc X env bs s.heap → Rp X s.heap v d →
    (∀ s', Sc X env tb s'.heap → Mv (PvE env) s s' → Calm X s.heap s'.heap → Q () s') → wpAny (model prog w) A (assign target env v) Q E s
/-- a loop; it breaks at stop, or runs to its end and its else -/
theorem ss_for {target iter : PySem.Expr} {pos : Pos} {body orelse : List PySem.Stmt} {ds : List PyData} {bs' : Bs} {ow' : Own} {br : Bool} (bsf tbf : Nat → Bs) (owf : Nat → Own) (stop : Option Nat) (F : FO hT X env ps s₀)
    (hsrc : SR2 prog w hT A X env bs target iter ds) (h0 : ∀ x d, (bsf 0).lookup x = some d → bs.lookup x = some d) (ho : owf 0 = ow)
    (hasg : ∀ i d, ds[i]? = some d → AsgF prog w A X env (bsf i) target d (tbf i))
    (hstop : ∀ k, stop = some k → k < ds.length)
    (hbody : ∀ i d, ds[i]? = some d → (∀ k, stop = some k → i < k) → SB prog w hT A X env ps s₀ (tbf i) (owf i) body false (bsf (i + 1)) (owf (i + 1)))
    (hbrk : ∀ k, stop = some k → br = false ∧ SB prog w hT A X env ps s₀ (tbf k) (owf k) body true bs' ow')
    (helse : stop = none → SB prog w hT A X env ps s₀ (bsf ds.length) (owf ds.length) orelse br bs' ow')
    (hs : ∀ y, foldedSetIterable iter env y = pure y := by intro _; rfl) : SS prog w hT A X env ps s₀ bs ow (.For target iter body orelse pos) br bs' ow' := by
  intro s E i
  refine wpAny_For (wpAny_mono (hsrc s E i.ok) (fun xv s₁ h₁ => wpAny_mono h₁ (fun it s₂ h₂ => ?_) fun _ _ e => e) fun _ _ e => e) hs
  obtain ⟨I, wr, St, Sv, rfl, hIn, k₂, W, st⟩ := h₂
  have hI0 : ∀ a ∈ wr, s₀.heap.get? a = none := fun a ha => F.none_of i (hIn a ha)
  have hIX : ∀ a ∈ wr, ¬ X a := fun a ha q => by obtain ⟨o, e⟩ := i.ok.xi a q; rw [hIn a ha] at e; cases e
  have hIP : ∀ a ∈ wr, ¬ (PvE env a ∨ ps a) := fun a ha q => by
    rcases q with q | q
    · obtain ⟨m, cm, hn, hc, _⟩ := i.ok.sc
      rcases q with rfl | ⟨n, q⟩
      · obtain ⟨o, _, _, e, _⟩ := hn; rw [hIn _ ha] at e; cases e
      · obtain ⟨o, e, _⟩ := hc n a q; rw [hIn _ ha] at e; cases e
    · exact hIX a ha (F.psX a q)
  have mvI : ∀ {s' : Shared} {h : Heap} {tk : Nat}, MvF env ps s s' → (∀ b o, b ∉ wr → s'.heap.get? b = some o → h.get? b = some o) → MvF env ps s { s' with heap := h, toks := tk } := fun q k => by
    obtain ⟨h', t', rfl, g⟩ := q
    exact ⟨_, _, rfl, fun b o nb e => k b o (fun z => by rw [hIn b z] at e; cases e) (g b o nb e)⟩
  have calmF : ∀ {s' s'' : Shared} {bs₁ : Bs} {ow₁ : Own}, FI hT X env ps s₀ bs₁ ow₁ s' → MvF env ps s' s'' → Calm X s'.heap s''.heap := fun i' q a o vs n na hq e => by
    refine q.get a o (fun z => ?_) e
    rcases z with z | z
    · obtain ⟨m, cm, hn, hc, _⟩ := i'.ok.sc
      rcases z with rfl | ⟨n', z⟩
      · obtain ⟨o', _, _, e', hd', _⟩ := hn; rw [e] at e'; cases e'; rw [hq] at hd'; cases hd'
      · obtain ⟨o', e', hd'⟩ := hc n' a z; rw [e] at e'; cases e'; rw [hq] at hd'; cases hd'
    · exact na (F.psX a z)
  refine codeAny_forLoop_any (fun n s' => ∃ j, j ≤ ds.length ∧ (∀ k, stop = some k → j ≤ k) ∧ n = ds.length + 1 - j ∧ St j s'.heap ∧ FI hT X env ps s₀ (bsf j) (owf j) s' ∧ MvF env ps s s') ?_ (ds.length + 1)
    ⟨0, Nat.zero_le _, fun _ _ => Nat.zero_le _, rfl, st, by rw [ho]; exact (i.keeps k₂).weak h0, Mv.of k₂⟩
  rintro n s' ⟨j, hj, hjs, rfl, st, fi, mvs⟩
  have hf := W.fields _ _ st
  by_cases hlt : j < ds.length
  · have hd : ds[j]? = some ds[j] := by simp
    refine W.item j s' _ _ ds[j] fi.ok.xi hd st fun v h₁ tk₁ rv st₁ k₁ => ?_
    obtain ⟨fi₁, c₁⟩ := fi.iter F (tk := tk₁) hI0 hf hIX k₁
    have mv₁ := mvI (tk := tk₁) mvs k₁
    refine W.owns _ _ _ _ _ st₁ fun h₁' k₁' st₁' => ?_
    obtain ⟨fi₁', c₁'⟩ := fi₁.iter F (tk := tk₁) hI0 (W.fieldsv _ _ _ st₁) hIX k₁'
    have mv₁' := mvI (tk := tk₁) mv₁ k₁'
    refine hasg j _ hd { s' with heap := h₁', toks := tk₁ } v _ _ fi₁'.ok.sc (rv.calm c₁') fun s₂ sc₂ mv₂ c₂ => ?_
    have fi₂ := fi₁'.stored F sc₂ mv₂ c₂
    have st₂ := W.frame _ _ _ st₁' c₂ fun a ha o e => mv₂.get a o (fun q => hIP a ha (.inl q)) e
    have mv₂' : MvF env ps s s₂ := mv₁'.trans (mv₂.more fun a q => .inl q)
    by_cases hst : ∃ k, stop = some k ∧ k = j
    · obtain ⟨k, hk, rfl⟩ := hst
      obtain ⟨rfl, hb⟩ := hbrk k hk
      refine wpAny_mono (hb s₂ _ fi₂) ?_ fun _ _ e => e
      rintro fl s₃ ⟨mv₃, rfl, fi₃⟩
      exact ⟨mv₂'.trans mv₃, rfl, fi₃⟩
    · have hlt' : ∀ k, stop = some k → j < k := fun k hk => Nat.lt_of_le_of_ne (hjs k hk) fun q => hst ⟨k, hk, q.symm⟩
      refine wpAny_mono (hbody j _ hd hlt' s₂ _ fi₂) ?_ fun _ _ e => e
      rintro fl s₃ ⟨mv₃, rfl, fi₃⟩
      refine ⟨ds.length + 1 - (j + 1), by omega, j + 1, hlt, fun k hk => hlt' k hk, rfl, ?_, fi₃, mv₂'.trans mv₃⟩
      exact W.frame _ _ _ st₂ (calmF fi₂ mv₃) fun a ha o e => mv₃.get a o (hIP a ha) e
  · have hj' : j = ds.length := by omega
    subst hj'
    have hno : stop = none := by
      cases q : stop with
      | none => rfl
      | some k => have := hjs k q; have := hstop k q; omega
    refine W.done s' _ _ st fun h₁ tk₁ k₁ => ?_
    obtain ⟨fi₁, c₁⟩ := fi.iter F (tk := tk₁) hI0 hf hIX k₁
    have mv₁ := mvI (tk := tk₁) mvs k₁
    refine wpAny_mono (helse hno _ _ fi₁) ?_ fun _ _ e => e
    rintro fl s₃ ⟨mv₃, e, fi₃⟩
    exact ⟨mv₁.trans mv₃, e, fi₃⟩
theorem asgF_name {x : Str} {pos : Pos} {d : PyData} (hk : env.scope.kind = .function) (hs : StoreAt (PvE env) env x) : AsgF prog w A X env bs (.Name x pos) d ((x, d) :: bs) := fun _ _ _ _ sc r h => assign_name (Pv := PvE env) hk sc r hs h
theorem asgF_tup {elts : List PySem.Expr} {k : Nat} {pos : Pos} (xs : List (Str × Pos)) {ds : List PyData} (hh : A.handled = none) (hk : env.scope.kind = .function)
    (hl : xs.length = ds.length) (he : (assignEach elts env).map (·.2) = xs.map fun x => assign (.Name x.1 x.2) env) (hst : (assignEach elts env).findIdx? (·.1) = none)
    (hs : ∀ x ∈ xs, StoreAt (PvE env) env x.1) : AsgF prog w A X env bs (.Tuple elts k pos) (.tuple ds) (tbNames (xs.map (·.1)) ds bs) := fun _ _ _ _ sc r h =>
  assign_tuple (Pv := PvE env) xs hh hk sc r hl he hst hs h
end Mine
end
section
open PySem PySem.W PyProof.Rows
namespace Mine
variable {prog : Program} {w : World} {hT : Heap} {A : Around} {X : Addr → Prop} {env : Env} {bs : List (Str × PyData)} {ps : Addr → Prop} {s₀ : Shared} {ow : Own}
/-- x = [] : a list of one's own -/
theorem own_new {x : Str} {p lp pos : Pos} {s : Shared} {E : Value → Shared → Prop} {Q : Flow → Shared → Prop} (F : FC hT X s₀ env) (hst : StoreAt (PvE env) env x) (hsc : Sc X env bs s.heap) (k : Keeps s₀ s)
    (h : ∀ P s', ¬ X P → s₀.heap.get? P = none → FO hT (XD X P) env (fun a => a = P) s₀ → FI hT (XD X P) env (fun a => a = P) s₀ ((x, opq P) :: bs) [(P, [])] s' → Q .next s')
    (hsw : swapsWith (.List [] lp) (some (.Name x p)) pos.line env = pure false := by rfl) : wpAny (model prog w) A (exec (.Assign [.Name x p] (.List [] lp) pos) env) Q E s := by
  have ok := F.ok hsc k
  refine wpAny_Assign_Name (List_ (wpAny_mono (evl_nil (prog := prog) (w := w) (hT := hT) (A := A) (X := X) (env := env) (bs := bs) lp s E ok) ?_ fun _ _ e => e)) hsw
  rintro vs s₁ ⟨k1, r1⟩
  cases r1
  refine wpAny_newObj_type ?_ (by show (#[] : Array Value).size ≤ 2 ^ 24; decide)
  have ok₁ := ok.keeps k1
  have hlt : ∀ a, (∃ o, s₁.heap.get? a = some o) → a ≠ s₁.heap.objs.size := fun a ⟨o, e⟩ => Nat.ne_of_lt (Heap.lt_size e)
  have g := grow_push s₁.heap { cls := .type "list", data := .seq #[] }
  have hn : s₀.heap.get? s₁.heap.objs.size = none := none_of_lt ((keeps_grow k).trans (keeps_grow k1)) (Nat.le_refl _)
  have hX : ¬ X s₁.heap.objs.size := ok₁.xi.fresh
  have hsz : s₁.heap.get? s₁.heap.objs.size = none := none_of_lt (Grow.refl _) (Nat.le_refl _)
  have scp : Sc (XD X s₁.heap.objs.size) env bs (s₁.heap.push { cls := .type "list", data := .seq #[] }) := (ok₁.sc.more fun a q => q.elim .inl fun z => .inr (by rw [z]; exact hsz)).grow g
  have hP : ¬ PvE env s₁.heap.objs.size := fun q => by
    obtain ⟨m, cm, hn, hc, _⟩ := ok₁.sc
    rcases q with q | ⟨n, q⟩
    · obtain ⟨o, _, _, e, _⟩ := hn; rw [← q, hsz] at e; cases e
    · obtain ⟨o, e, _⟩ := hc n _ q; rw [hsz] at e; cases e
  have Fo : FO hT (XD X s₁.heap.objs.size) env (fun a => a = s₁.heap.objs.size) s₀ := {
    kind := F.kind, top := F.top, priv := F.priv, glob := F.glob, blt := F.blt, apart := F.apart
    psT := fun a q => by
      subst q
      cases z : hT.get? s₁.heap.objs.size with
      | none => rfl
      | some o => have := ok₁.top _ _ z; rw [hsz] at this; cases this
    psX := fun a q => .inr q
    xp := fun a q z => by
      rcases q with q | rfl
      · obtain ⟨o, e⟩ := F.xi a q; rw [F.priv a z] at e; cases e
      · exact hP z }
  have i₁ : FI hT (XD X s₁.heap.objs.size) env (fun a => a = s₁.heap.objs.size) s₀ bs [(s₁.heap.objs.size, [])] { s₁ with heap := s₁.heap.push { cls := .type "list", data := .seq #[] } } :=
    ⟨Mv.of (keeps_trans (keeps_trans k k1) ⟨_, s₁.toks, rfl, g⟩), ⟨F.kind, scp, ok₁.top.trans g, fun a q => by
      rcases q with q | rfl
      · obtain ⟨o, e⟩ := ok₁.xi a q; exact ⟨o, g _ _ e⟩
      · exact ⟨_, Heap.get?_push_size _ rfl⟩⟩, fun q hq => by
        simp at hq; subst hq
        exact ⟨rfl, #[], 0, Heap.get?_push_size _ rfl, .nil⟩⟩
  refine sc_store (X := XD X s₁.heap.objs.size) (d := opq s₁.heap.objs.size) F.kind i₁.ok.sc (.opq _) hst fun s₂ sc₂ mv₂ c₂ => ?_
  exact h _ _ hX hn Fo (i₁.stored Fo sc₂ mv₂ c₂)
theorem keeps_of_mv {P : Addr} {s : Shared} (h : Mv (fun a => a = P) s₀ s) (hn : s₀.heap.get? P = none) : Keeps s₀ s := by
  obtain ⟨h', t, rfl, g⟩ := h
  exact ⟨h', t, rfl, fun b o e => g b o (fun q => by subst q; rw [hn] at e; cases e) e⟩
/-- a list of one's own as data -/
theorem own_data {P : Addr} {ds : List PyData} {s : Shared} (i : FI hT (XD X P) env ps s₀ bs ow s) (hm : (P, ds) ∈ ow) (hX : ¬ X P) : Rp X s.heap (.ref P) (.list ds) :=
  let ⟨_, _, e, r⟩ := (i.own _ hm).2; .list e hX (r.less fun _ => .inl)
/-- a, b, c = (…) stored from behind -/
theorem bind_order {Pv : Addr → Prop} {E : Value → Shared → Prop} (hk : env.scope.kind = .function) (xs : List Str) : ∀ (vs : List Value) (ds : List PyData) (bs : List (Str × PyData)) (s : Shared) (Q : Unit → Shared → Prop),
    xs.length = vs.length → Sc X env bs s.heap → RpL X s.heap vs ds → (∀ x ∈ xs, StoreAt Pv env x) →
    (∀ s', Sc X env (tbNames xs ds bs) s'.heap → Mv Pv s s' → Calm X s.heap s'.heap → Q () s') →
    wpAny (model prog w) A (assignInOrder (xs.map fun n => bindName env n) vs) Q E s := by
  induction xs with
  | nil =>
    intro vs ds bs s Q hl hsc hr _ h
    cases vs with
    | cons => cases hl
    | nil => cases hr; exact wpAny_pure (h s hsc ⟨s.heap, s.toks, rfl, fun _ _ _ e => e⟩ fun _ _ _ _ _ _ e => e)
  | cons x xs ih =>
    intro vs ds bs s Q hl hsc hr hst h
    cases vs with
    | nil => cases hl
    | cons v vs => cases hr with
      | cons r rs =>
        rw [List.map_cons]
        unfold assignInOrder
        refine wpAny_bind (wpAny_holding (wpAny_bindName (sc_store (Pv := Pv) hk hsc r (hst _ (.head _)) fun s₁ sc₁ mv₁ c₁ => ?_)))
        exact ih vs _ (_ :: bs) s₁ Q (by simpa using hl) sc₁ (rs.calm c₁) (fun y hy => hst y (.tail _ hy)) fun s₂ sc₂ mv₂ c₂ => h s₂ sc₂ (mv₁.trans mv₂) fun a o vs n x q e => c₂ a o vs n x q (c₁ a o vs n x q e)
theorem RpL.reverse {h : Heap} : ∀ {vs : List Value} {ds : List PyData}, RpL X h vs ds → RpL X h vs.reverse ds.reverse
  | _, _, .nil => .nil
  | _, _, .cons a b => by rw [List.reverse_cons, List.reverse_cons]; exact b.reverse.append (.cons a .nil)
theorem ss_swapped {elts : List PySem.Expr} {k : Nat} {tpos pos : Pos} {value : PySem.Expr} (names : List Str) {ds : List PyData} (F : FO hT X env ps s₀) (hh : A.handled = none) (he : EV prog w hT A X env bs value (.tuple ds)) (hl : names.length = ds.length)
    (hst : ∀ x ∈ names, StoreAt (PvE env) env x) (hs : swapsWithSole [.Tuple elts k tpos] value pos.line env = pure false := by rfl)
    (hw : swappedStores [.Tuple elts k tpos] value env = pure (some names) := by rfl) : SS prog w hT A X env ps s₀ bs ow (.Assign [.Tuple elts k tpos] value pos) false (tbNames names.reverse ds.reverse bs) ow := by
  intro s E i
  refine Assign_Tuple_swapped (names := names) (wpAny_mono (he s E i.ok) ?_ fun _ _ e => e) hs hw
  rintro v s₁ ⟨k₁, r₁⟩
  have i₁ := i.keeps k₁
  cases r₁ with
  | @tuple a vs n _ e1 n1 r1 =>
    have l1 := r1.length
    simp only [Array.length_toList] at l1
    have : names.length = vs.size := by omega
    rw [this]
    refine wpAny_unpackItems_tuple hh ⟨_, e1, rfl, _, rfl⟩ fun h' ext => ?_
    have g := grow_ext ext
    have k₂ : Keeps s₁ { s₁ with heap := h' } := ⟨h', s₁.toks, rfl, g⟩
    have i₂ := i₁.keeps k₂
    refine bind_order (Pv := PvE env) F.kind names.reverse _ _ bs _ _ (by simp; omega) i₂.ok.sc (r1.grow g).reverse (fun x hx => hst x (by simpa using hx)) fun s₃ sc₃ mv₃ c₃ => ?_
    exact ⟨(Mv.of k₁).trans ((Mv.of k₂).trans (mv₃.more fun a q => .inl q)), rfl, i₂.stored F sc₃ mv₃ c₃⟩
/-- the words of a text -/
theorem rp_strs {h : Heap} : ∀ (l : List (Str × Tok)), RpL X h (strValues l) (l.map fun p => PyData.str p.1)
  | [] => .nil
  | _ :: l => .cons (.str _ _) (rp_strs l)
theorem strs_of {h : Heap} : ∀ {vs : List Value} {xs : List Str}, RpL X h vs (xs.map .str) → ∃ l, vs = strValues l ∧ l.map (·.1) = xs
  | [], [], _ => ⟨[], rfl, rfl⟩
  | [], x :: xs, r => by cases r
  | v :: vs, [], r => by cases r
  | v :: vs, x :: xs, .cons r rs => by
    obtain ⟨l, rfl, e⟩ := strs_of rs
    cases r with
    | str _ t => exact ⟨(x, t) :: l, rfl, by simp [e]⟩
theorem ev_split0 {e : PySem.Expr} {ap pos : Pos} {x : Str} {ws : List Str} (he : EV prog w hT A X env bs e (.str x)) (hx : x.length ≤ 10000) (hws : PySem.wordsOf x = ws)
    (hw : (Builtin.Str.spaceWords x (x.length + 1) == [(0, x.length)]) = false) (hn : (Builtin.Str.spaceWords x (x.length + 1)).length ≤ 10000)
    (hbase : attributeBase e "split" env (eval e env) = eval e env := by rfl) (hline : (ap.endLine == pos.line) = true := by rfl) :
    EV prog w hT A X env bs (.Call (.Attribute e "split" ap) [] [] pos) (.list (ws.map .str)) := by
  intro s E ok
  refine Call_method0 hbase hline (wpAny_mono (he s E ok) ?_ fun _ _ e => e)
  rintro v s₁ ⟨k₁, r₁⟩
  cases r₁ with
  | str _ t =>
    refine ⟨"str", _, F.plainAttrs_str, F.slot_str_split, F.type_str_split, typeIs_str _ _ _, (fun _ e => nomatch e),
      method0_meets F.slot_str_split F.entry_str_split (typeIs_str _ _ _) (F.args_str_split_1 _) (meets_str_split_space x t (Nat.le_trans hx (by decide)) (Nat.le_trans hn (by decide))) ?_⟩
    simp only [hw, Bool.false_eq_true, if_false]
    rw [strsFrom_eq, hws]
    refine ⟨keeps_trans k₁ ⟨_, _, rfl, grow_push _ _⟩, .list (n := 0) (Heap.get?_push_size _ rfl) (ok.keeps k₁).xi.fresh ?_⟩
    have := rp_strs (X := X) (h := s₁.heap.push { cls := .type "list", data := .seq (strValues (numbered s₁.toks ws)).toArray }) (numbered s₁.toks ws)
    have e2 : (numbered s₁.toks ws).map (fun p => PyData.str p.1) = ws.map .str := by
      rw [← numbered_texts s₁.toks ws, List.map_map, numbered_texts]; rfl
    rw [← e2]; exact this
theorem ev_joinQ {e : PySem.Expr} {x : Str} {k : Nat} {cp ap pos : Pos} {s : Shared} {E : Value → Shared → Prop} {Q : Value → Shared → Prop}
    (h : ∀ s₁, Keeps s s₁ → wpAny (model prog w) A (eval e env) (fun v s₂ => ∃ D vs texts n, v = .ref D ∧ s₂.heap.get? D = some { cls := .type "list", data := .seq vs n } ∧ RpL X s₂.heap vs.toList (texts.map .str) ∧ JoinOk x texts = true ∧ ∀ t' k, Q (.str (Txt.join x texts) t') { s₂ with toks := k }) E s₁)
    (hbase : attributeBase (.Constant (.str x) k cp) "join" env (eval (.Constant (.str x) k cp) env) = eval (.Constant (.str x) k cp) env := by rfl) (hst : starEach [e] env = [(false, eval e env)] := by rfl) (hline : (ap.endLine == pos.line) = true := by rfl) :
    wpAny (model prog w) A (eval (.Call (.Attribute (.Constant (.str x) k cp) "join" ap) [e] [] pos) env) Q E s := by
  refine Call_method1 hbase hst hline (wpAny_Constant_str ?_)
  refine PySem.SB.join (wpAny_mono (h _ (keeps_tok s _)) ?_ fun _ _ e => e)
  rintro v s₂ ⟨D, vs, texts, n, rfl, e1, r, ok, q⟩
  obtain ⟨l, hl, ht⟩ := strs_of r
  refine ⟨D, l, rfl, ⟨_, e1, rfl, n, ?_⟩, texts, ht, ok, q⟩
  rw [← hl]
theorem SS.use {st : PySem.Stmt} {br : Bool} {bs' : Bs} {ow' : Own} {s : Shared} {E : Value → Shared → Prop} {Q : Flow → Shared → Prop} (i : FI hT X env ps s₀ bs ow s) (h : SS prog w hT A X env ps s₀ bs ow st br bs' ow')
    (hQ : ∀ s', FI hT X env ps s₀ bs' ow' s' → MvF env ps s s' → Q (flow br) s') : wpAny (model prog w) A (exec st env) Q E s := wpAny_mono (h s E i) (fun _ s' ⟨m, e, i'⟩ => by subst e; exact hQ s' i' m) fun _ _ e => e
theorem weak_of {bs' : Bs} (h : ∀ p ∈ bs', bs.lookup p.1 = some p.2) : ∀ x d, bs'.lookup x = some d → bs.lookup x = some d := by_mem (P := fun x d => bs.lookup x = some d) h
end Mine
end
section
open PySem PySem.W PyProof.Rows
set_option maxRecDepth 100000
set_option maxHeartbeats 4000000
namespace Mine
variable {w : World} {hT : Heap} {A : Around} {X : Addr → Prop} {env : Env} {bs : List (Str × PyData)}
noncomputable def coll (a b : Nat) : Int := b2i (decide ([b] < [a])) - b2i (decide ([a] < [b]))
noncomputable def ballots : List (Nat × Nat × Nat) := [(49,49,49), (49,49,50), (49,50,49), (50,49,49), (49,50,50), (50,49,50), (50,50,49), (49,50,51), (49,51,50), (50,49,51), (50,51,49), (51,49,50), (51,50,49)]
noncomputable def bword (t : Nat × Nat × Nat) : Str := ⟨#[t.1, t.2.1, t.2.2]⟩
noncomputable def vote (t : Nat × Nat × Nat) : Tri := (coll t.2.1 t.1, coll t.2.2 t.2.1, coll t.1 t.2.2)
noncomputable def votesL : List Tri := ballots.map vote
theorem fn_votes (T : Tp w hT) : FN PR w hT 89 [] (.list (votesL.map tri)) 2 := by
  refine fn_intro (ps := []) (T.k 89 _ rfl) rfl T.lim (codeRec_of T.k (by rfl)) rfl rfl rfl rfl ?_ ?_ rfl ?_
  · rintro s vals _ hl
    cases len0 hl
    exact .of_eq rfl
  · intro n x hx; simp at hx
  · intro A X s₀ L hA F s E hsc k
    have hh := hA.1
    refine wpAny_execs_cons (own_new F (F.storeL rfl) hsc k fun P s₁ hX hn Fo i => ?_)
    have hdd : ∀ i : Nat, (ballots.map fun t => PyData.str (bword t))[i]? = (ballots[i]?).map fun t => PyData.str (bword t) := fun i => by simp
    refine wpAny_execs_cons (SS.use i (ss_for (ds := ballots.map fun t => PyData.str (bword t)) (bs' := [(Str.ofString "votes", opq P)]) (ow' := [(P, votesL.map tri)]) (br := false)
      (fun _ => [(Str.ofString "votes", opq P)])
      (fun i => (Str.ofString "ballot", .str (bword ((ballots[i]?).getD (0, 0, 0)))) :: [(Str.ofString "votes", opq P)])
      (fun i => [(P, ((ballots.take i).map fun t => tri (vote t)))]) none Fo (SR.two (sr_list hh ?_)) ?_ rfl ?_ (by intro k hk; cases hk) ?_ (by intro k hk; cases hk) ?_) ?_)
    · have e0 : (ballots.map fun t => PyData.str (bword t)) = (ballots.map bword).map .str := by rw [List.map_map]; rfl
      rw [e0]
      exact ev_split0 ev_str (by decide +kernel) (by decide +kernel) (by decide +kernel) (by decide +kernel)
    · intro x d h; exact h
    · intro i d hd
      rw [hdd] at hd
      cases hb : ballots[i]? with
      | none => rw [hb] at hd; cases hd
      | some t =>
        rw [hb] at hd; cases hd
        exact asgF_name Fo.kind (Fo.storeL rfl)
    · intro i d hd _
      rw [hdd] at hd
      cases hb : ballots[i]? with
      | none => rw [hb] at hd; cases hd
      | some t =>
        have e1 : (ballots.take (i + 1)).map (fun t => tri (vote t)) = (ballots.take i).map (fun t => tri (vote t)) ++ [tri (vote t)] := by
          rw [List.take_add_one, hb, List.map_append]; rfl
        rw [e1]
        have hlen : ((ballots.take i).map fun t => tri (vote t)).length ≤ 1000 := by
          rw [List.length_map, List.length_take]
          exact Nat.le_trans (Nat.min_le_right _ _) (by decide)
        obtain ⟨a, b, c⟩ := t
        refine sb_cons (ss_swapped [Str.ofString "a", Str.ofString "b", Str.ofString "c"] (ds := [.str ⟨#[a]⟩, .str ⟨#[b]⟩, .str ⟨#[c]⟩]) Fo hh (ev_tuple (evl_cons (ev_sign (x := bword (a, b, c)) (k := 0) (ev_name rfl) ev_int (by decide) rfl) (evl_cons (ev_sign (x := bword (a, b, c)) (k := 1) (ev_name rfl) ev_int (by decide) rfl) (evl_cons (ev_sign (x := bword (a, b, c)) (k := 2) (ev_name rfl) ev_int (by decide) rfl) evl_nil)))) rfl ?_) ?_
        · intro x hx; simp at hx; rcases hx with rfl | rfl | rfl <;> exact Fo.storeL rfl
        · refine sb_cons (ss_append (P := P) (d := tri (vote (a, b, c))) Fo rfl ?_ (by intro q hq; cases hq) hlen) (sb_nil (weak_of ?_))
          · refine ev_tuple (evl_cons (ev_call T.gn.2.2.2.2.1 rfl Fo.glob (fn_strcoll T _ _) hA ⟨_, _, T.k 82 _ rfl, rfl⟩ (evl_cons (ev_name rfl) (evl_cons (ev_name rfl) evl_nil))) (evl_cons (ev_call T.gn.2.2.2.2.1 rfl Fo.glob (fn_strcoll T _ _) hA ⟨_, _, T.k 82 _ rfl, rfl⟩ (evl_cons (ev_name rfl) (evl_cons (ev_name rfl) evl_nil)))
              (evl_cons (ev_call T.gn.2.2.2.2.1 rfl Fo.glob (fn_strcoll T _ _) hA ⟨_, _, T.k 82 _ rfl, rfl⟩ (evl_cons (ev_name rfl) (evl_cons (ev_name rfl) evl_nil))) evl_nil)))
          · intro p hp; simp at hp; subst hp; rfl
    · intro _
      exact sb_nil fun x d h => h
    · intro s₂ i₂ _
      refine wpAny_execs_cons (wpAny_Return_some (EV.use i₂.ok (ev_name (d := opq P) rfl) fun v s₃ k₃ r₃ => ?_))
      cases rp_opq r₃
      have i₃ := i₂.keeps k₃
      exact ⟨_, rfl, keeps_of_mv i₃.mv hn, own_data i₃ (.head _) hX⟩
end Mine
end
section
open PySem PySem.W PyProof.Rows
open AutoSeq1 (wpAny_loadPart')
set_option maxRecDepth 100000
namespace Mine
variable {prog : Program} {w : World} {hT : Heap} {A : Around} {X : Addr → Prop} {env : Env} {bs : List (Str × PyData)} {s : Shared} {E : Value → Shared → Prop}
/-- a tuple's iterator, drawn from by another one: an item -/
theorem drawT_item {it t : Addr} {i : Nat} {items : Array Value} {x : Value} {Q : Value → Shared → Prop} (hit : s.heap.IsTupleIter it t i) (ht : s.heap.IsTuple t items) (hx : items[i]? = some x)
    (hQ : ∀ h', h'.IsTupleIter it t (i + 1) → Heap.SameBut it s.heap h' → Q x { s with heap := h' }) : wpAny (model prog w) A (Builtin.SmallTypes.nextOf (.ref it)) Q E s := by
  obtain ⟨o, ho, hc, hd⟩ := id hit
  obtain ⟨ol, hol, _, nl, hdl⟩ := ht
  unfold Builtin.SmallTypes.nextOf
  refine wpAny_bind (wpAny_callSpecial?_slot (name := Str.ofString "__next__") hit.typeIs F.slot_tuple_iterator_next (wpAny_call_entry F.slot_tuple_iterator_next hit.typeIs F.entry_tuple_iterator_next ?_ (F.args_tuple_iterator_next_1 _)))
  show wpAny _ _ (field (.ref it) 0 >>= _) _ _ s
  refine wpAny_bind (wpAny_field ho hd (x := .ref t) rfl ?_)
  show wpAny _ _ (if (Value.ref t == Value.none) = true then _ else _) _ _ s
  rw [if_neg (show ¬ ((Value.ref t == Value.none) = true) from Bool.false_ne_true)]
  show wpAny _ _ (field (.ref it) 1 >>= _) _ _ s
  refine wpAny_bind (wpAny_field ho hd (x := .int i 0) rfl ?_)
  show wpAny _ _ (seqItems? (.ref t) >>= _) _ _ s
  refine wpAny_bind (wpAny_seqItems hol hdl ?_)
  simp only [Int.toNat_natCast, hx]
  refine wpAny_bind (wpAny_setField ho hd (by simp) (wpAny_pure ⟨x, rfl, wpAny_pure (hQ _ ?_ (Heap.SameBut.update ..))⟩))
  exact ⟨_, Heap.get?_update_self _ ho (Obj.isFreed_of_fields (Obj.data_mapFields hd _)), (Obj.cls_mapFields ..).trans hc, by rw [Obj.data_mapFields hd]; simp [rawInt]⟩
/-- the end -/
theorem drawT_end {it t : Addr} {i : Nat} {items : Array Value} {Q : Value → Shared → Prop} (hh : A.handled = none) (hit : s.heap.IsTupleIter it t i) (ht : s.heap.IsTuple t items) (hx : items[i]? = none)
    (hE : ∀ h' e, Heap.ExtBut it s.heap h' → (∃ o, h'.get? e = some o ∧ o.cls = .type "StopIteration") → E (.ref e) { s with heap := h' }) : wpAny (model prog w) A (Builtin.SmallTypes.nextOf (.ref it)) Q E s := by
  obtain ⟨o, ho, hc, hd⟩ := id hit
  obtain ⟨ol, hol, _, nl, hdl⟩ := ht
  unfold Builtin.SmallTypes.nextOf
  refine wpAny_bind (wpAny_callSpecial?_slot (name := Str.ofString "__next__") hit.typeIs F.slot_tuple_iterator_next (wpAny_call_entry F.slot_tuple_iterator_next hit.typeIs F.entry_tuple_iterator_next ?_ (F.args_tuple_iterator_next_1 _)))
  show wpAny _ _ (field (.ref it) 0 >>= _) _ _ s
  refine wpAny_bind (wpAny_field ho hd (x := .ref t) rfl ?_)
  show wpAny _ _ (if (Value.ref t == Value.none) = true then _ else _) _ _ s
  rw [if_neg (show ¬ ((Value.ref t == Value.none) = true) from Bool.false_ne_true)]
  show wpAny _ _ (field (.ref it) 1 >>= _) _ _ s
  refine wpAny_bind (wpAny_field ho hd (x := .int i 0) rfl ?_)
  show wpAny _ _ (seqItems? (.ref t) >>= _) _ _ s
  refine wpAny_bind (wpAny_seqItems hol hdl ?_)
  simp only [Int.toNat_natCast, hx]
  refine wpAny_bind (wpAny_rule (wpAny_bind (wpAny_setField ho hd (by simp) ?_)))
  show wpAny _ _ (newExc (.type "StopIteration") [] >>= _) _ _ _
  refine wpAny_bind ?_
  simp only [newExc, newTuple]
  refine wpAny_bind (wpAny_newObj_type ?_ (by size_fits))
  refine wpAny_bind (m := firstArgMember _ _) (wpAny_of_eq (a := Value.none) (by first | rfl | (simp only [firstArgMember]; rfl)) ?_)
  refine wpAny_newObj_type ?_ (by size_fits)
  simp only [raiseNew]
  refine wpAny_bind (wpAny_handled ?_)
  first | rw [show A.in1.handled = none from hh] | rw [hh]
  refine wpAny_bind (wpAny_pure (wpAny_throw ?_))
  exact hE _ _ (((Heap.SameBut.update ..).extBut.push _).push _) ⟨_, Heap.get?_push_size _ rfl, rfl⟩
theorem tupIter_at {h h' : Heap} {a l i} (x : h.IsTupleIter a l i) (e : ∀ o, h.get? a = some o → h'.get? a = some o) : h'.IsTupleIter a l i := let ⟨o, ho, r⟩ := x; ⟨o, e _ ho, r⟩
theorem tup_at {h h' : Heap} {a items} (x : h.IsTuple a items) (e : ∀ o, h.get? a = some o → h'.get? a = some o) : h'.IsTuple a items := let ⟨o, ho, r⟩ := x; ⟨o, e _ ho, r⟩
theorem draws_tuple (hh : A.handled = none) (it l : Addr) (hne : l ≠ it) (items : Array Value) :
    Draws prog w A it [it, l] items.size (fun i v => items[i]? = some v) (fun i h => h.IsTupleIter it l i ∧ h.IsTuple l items) where
  live := fun _ _ st => let ⟨o, ho, _⟩ := st.1; ⟨o, ho⟩
  frame := fun _ _ _ st hk => ⟨tupIter_at st.1 fun o e => hk it (by simp) o e, tup_at st.2 fun o e => hk l (by simp) o e⟩
  item := fun i s Q E hi st hQ => by
    refine drawT_item st.1 st.2 (x := items[i]) (by simp [hi]) fun h' hit' hs' => ?_
    exact hQ _ h' s.toks (by simp [hi]) ⟨hit', tup_at st.2 fun o e => (hs'.2 _ hne).trans e⟩ hs'
  done := fun s Q E st hE => drawT_end hh st.1 st.2 (by simp) hE
theorem meets_enumT (l : Addr) (items : Array Value) (n : Nat) :
    Meets (Builtin.«enumerate.__new__» ⟨[.type "enumerate", .ref l], []⟩) (fun _ R s => s.heap.get? l = some { cls := .type "tuple", data := .seq items n } ∧
      R (.ok (.ret (.ref (s.heap.push { cls := .type "tuple_iterator", data := .fields #[.ref l, .int 0 0] }).objs.size)))
        { s with heap := (s.heap.push { cls := .type "tuple_iterator", data := .fields #[.ref l, .int 0 0] }).push { cls := .type "enumerate", data := .fields #[.none, .bool false, .ref s.heap.objs.size, rawInt 0, .none, .none] } }) :=
  .of_wp fun prog w A R s h => by
    obtain ⟨hp, g, d, tk, os⟩ := s; obtain ⟨hl, h⟩ := h
    have hsub := sub_enumerate
    have hL : Heap.IsTuple (Shared.heap ⟨hp, g, d, tk, os⟩) l items := ⟨_, hl, rfl, n, rfl⟩
    wp_walk using wpAny_loadPart' hl
    refine wpAny_stack_any fun st => wpAny_pure ?_
    split
    · rename_i c _ _ _ _ _
      cases (c == Value.type "enumerate")
      · wp_walk using wpAny_loadPart' hl, wpAny_pyIter_tuple hL
        exact ⟨_, rfl, h⟩
      · wp_walk using wpAny_loadPart' hl, wpAny_pyIter_tuple hL
        exact ⟨_, rfl, h⟩
    · wp_walk using wpAny_loadPart' hl, wpAny_pyIter_tuple hL
      exact ⟨_, rfl, h⟩
theorem call_enumT {l : Addr} {items : Array Value} {n : Nat} {Q : Value → Shared → Prop} (hl : s.heap.get? l = some { cls := .type "tuple", data := .seq items n })
    (h : ∀ h', IsEnum h' (s.heap.objs.size + 1) s.heap.objs.size 0 .none → h'.IsTupleIter s.heap.objs.size l 0 → Grow s.heap h' → Q (.ref (s.heap.objs.size + 1)) { s with heap := h' }) :
    wpAny (model prog w) A (call (.type "enumerate") [.ref l]) Q E s := by
  refine callType_new F.called_enumerate (by decide) (F.typeCall_enumerate_1 _) (F.newCall_enumerate_1 _) (fun obj => F.args_object_init_2 obj _) F.entry_enumerate_new (meets_enumT l items n) ⟨hl, ?_⟩
  have hz : (s.heap.push { cls := .type "tuple_iterator", data := .fields #[.ref l, .int 0 0] }).objs.size = s.heap.objs.size + 1 := Heap.size_push ..
  show _ ∧ _
  rw [hz]
  have he : IsEnum ((s.heap.push { cls := .type "tuple_iterator", data := .fields #[.ref l, .int 0 0] }).push
      { cls := .type "enumerate", data := .fields #[.none, .bool false, .ref s.heap.objs.size, rawInt 0, .none, .none] }) (s.heap.objs.size + 1) s.heap.objs.size 0 .none := by
    have := Heap.get?_push_size (s.heap.push { cls := .type "tuple_iterator", data := .fields #[.ref l, .int 0 0] })
      (o := { cls := .type "enumerate", data := .fields #[.none, .bool false, .ref s.heap.objs.size, rawInt 0, .none, .none] }) rfl
    rw [hz] at this; exact this
  exact ⟨⟨_, he, rfl⟩, h _ he ⟨_, Heap.get?_push_of_some _ (Heap.get?_push_size _ rfl), rfl, rfl⟩ fun b o x => Heap.get?_push_of_some _ (Heap.get?_push_of_some _ x)⟩
/-- enumerate over a tuple -/
noncomputable def numd (ds : List PyData) : List PyData := (List.range ds.length).map fun i => .tuple [.int (i : Nat), ds[i]?.getD .none]
theorem sr2_enum {elts : List PySem.Expr} {x1 : Nat} {tp p pos : Pos} {e : PySem.Expr} {ds : List PyData} (hh : A.handled = none) (hg : BN hT (Str.ofString "enumerate") (.type "enumerate")) (hx : env.kindOf (Str.ofString "enumerate") = some .globalImplicit) (hgl : env.globals = mainGlobals) (hbl : env.builtins = builtinsNs)
    (he : EV prog w hT A X env bs e (.tuple ds))
    (hne : ∃ x rest, backTo pos (starEach [e] env) = (false, x) :: rest := by exact ⟨_, _, rfl⟩) (hpl : (backTo pos (starEach [e] env)).any (·.1) = false := by rfl) (hst : starEach [e] env = (false, eval e env) :: starEach [] env := by rfl) :
    SR2 prog w hT A X env bs (.Tuple elts x1 tp) (.Call (.Name (Str.ofString "enumerate") p) [e] [] pos) (numd ds) := by
  intro s E ok
  refine wpAny_Call_Name_kw (nm_builtin hg hx hgl hbl ok ?_ (by decide +kernel))
  refine PySem.callWith_type hpl (args_evl (evl_cons he evl_nil hst) ok hne fun vs s₁ k₁ r₁ => ?_)
  have ok₁ := ok.keeps k₁
  cases r₁ with
  | cons r1 r2 => cases r2; cases r1 with
    | @tuple a vs n _ e1 n1 r1 =>
      have l1 := r1.length
      simp only [Array.length_toList] at l1
      refine call_enumT e1 fun h' hE hI g => ?_
      refine wpAny_pyIter_enum (s := { s₁ with heap := h' }) hE ?_
      have hal : a ≠ s₁.heap.objs.size := Nat.ne_of_lt (Heap.lt_size e1)
      have hal' : a ≠ s₁.heap.objs.size + 1 := Nat.ne_of_lt (Nat.lt_succ_of_lt (Heap.lt_size e1))
      have hn0 : s.heap.get? s₁.heap.objs.size = none := none_of_lt (keeps_grow k₁) (Nat.le_refl _)
      have hn1 : s.heap.get? (s₁.heap.objs.size + 1) = none := none_of_lt (keeps_grow k₁) (Nat.le_succ _)
      generalize s₁.heap.objs.size = J at *
      have hD := draws_tuple (prog := prog) (w := w) (A := A.in1) hh J a hal vs
      refine ⟨J + 1, [J + 1, J], fun i h => (∃ old, IsEnum h (J + 1) J (i : Nat) old) ∧ (h.IsTupleIter J a i ∧ h.IsTuple a vs) ∧ RpL X h vs.toList ds,
        fun i v h => (∃ x b, v = .ref b ∧ IsEnumOut h (J + 1) J (i : Nat) x b) ∧ (h.IsTupleIter J a i ∧ h.IsTuple a vs) ∧ RpL X h vs.toList ds, rfl, ?_, keeps_trans k₁ ⟨h', s₁.toks, rfl, g⟩, ?_, ⟨_, hE⟩, ⟨hI, ⟨_, g _ _ e1, rfl, _, rfl⟩⟩, r1.grow g⟩
      · intro b hb; simp at hb; rcases hb with rfl | rfl
        · exact hn1
        · exact hn0
      · have hlen : (numd ds).length = vs.size := by simp [numd]; omega
        have flds : ∀ i h, ((∃ old, IsEnum h (J + 1) J (i : Nat) old) ∧ (h.IsTupleIter J a i ∧ h.IsTuple a vs) ∧ RpL X h vs.toList ds) → ∀ b ∈ [J + 1, J], ∃ o fs, h.get? b = some o ∧ o.data = .fields fs := fun i h st b hb => by
          obtain ⟨⟨_, q⟩, ⟨⟨o, ho, _, hd⟩, _⟩, _⟩ := st
          simp at hb; rcases hb with rfl | rfl
          · exact ⟨_, _, q, rfl⟩
          · exact ⟨_, _, ho, hd⟩
        exact {
          frame := fun i h h' st c k => by
            obtain ⟨⟨old, q⟩, ⟨i1, i2⟩, r⟩ := st
            refine ⟨⟨old, k _ (by simp) _ q⟩, ⟨tupIter_at i1 fun o e => k J (by simp) o e, ?_⟩, r.calm c⟩
            obtain ⟨o', e', c', n', d'⟩ := i2
            exact ⟨o', c a o' vs n' n1 d' e', c', n', d'⟩
          item := fun i s Q E d xi hd st hQ => by
            obtain ⟨⟨old, q⟩, st', r⟩ := st
            have hi : i < vs.size := by rw [← hlen]; exact (List.getElem?_eq_some_iff.mp hd).1
            refine wpAny_pyNext_enum_itemD hD q st' hi (Nat.succ_ne_self J) (by simp; exact fun z => hal' z.symm) fun x h' tk hx ho st₁ ht hz k => ?_
            have k' : ∀ b o, b ∉ [J + 1, J] → s.heap.get? b = some o → h'.get? b = some o := fun b o nb e => k b o (fun z => nb (by simp [z])) (fun z => nb (by simp [z])) e
            have calm : Calm X s.heap h' := fun b o us m _ hq e => k' b o (fun z => by
              obtain ⟨o', fs, e', d'⟩ := flds i s.heap ⟨⟨old, q⟩, st', r⟩ b z
              rw [e] at e'; cases e'; rw [hq] at d'; cases d') e
            rw [← Array.getElem?_toList] at hx
            obtain ⟨dx, hdx, rx⟩ := r.get' hx
            have hi' : i < ds.length := by omega
            have hde : d = .tuple [.int (i : Nat), dx] := by
              simp only [numd, List.getElem?_map, List.getElem?_range hi', Option.map_some, Option.some.injEq] at hd
              rw [← hd, hdx]; rfl
            subst hde
            have hsz : s.heap.objs.size ≠ J + 1 := fun z => by have := Heap.lt_size q; rw [z] at this; exact absurd this (Nat.lt_irrefl _)
            refine hQ _ h' (tk + 1) (.tuple (n := 0) ht xi.fresh (.cons (.int _ _) (.cons (rx.calm calm) .nil))) ⟨⟨x, _, rfl, ?_⟩, st₁, r.calm calm⟩ k'
            have : ((i + 1 : Nat) : Int) = (i : Int) + 1 := by push_cast; rfl
            rw [this]; exact ho
          done := fun s Q E st hQ => by
            obtain ⟨⟨old, q⟩, st', r⟩ := st
            refine wpAny_pyNext_enum_endD hD q (hlen ▸ st') fun h' ext => hQ h' s.toks fun b o nb e => ext b o (fun z => nb (by simp [z])) e
          fields := flds
          fieldsv := fun i v h st b hb => by
            obtain ⟨⟨_, _, _, q⟩, ⟨⟨o, ho, _, hd⟩, _⟩, _⟩ := st
            simp at hb; rcases hb with rfl | rfl
            · exact ⟨_, _, q, rfl⟩
            · exact ⟨_, _, ho, hd⟩
          owns := fun i s v Q E st hQ => by
            obtain ⟨⟨x, b, rfl, q⟩, ⟨i1, i2⟩, r⟩ := st
            refine wpAny_letOwnedTupleGo_enum q fun h' q' hs => hQ h' (fun b o nb e => (hs.2 b fun z => nb (by simp [z])).trans e) ⟨⟨_, q'⟩, ⟨tupIter_at i1 fun o e => (hs.2 _ (Nat.ne_of_lt (Nat.lt_succ_self J))).trans e, tup_at i2 fun o e => (hs.2 _ hal').trans e⟩, ?_⟩
            exact r.calm fun b o us m _ hq e => (hs.2 b fun z => by subst z; rw [q] at e; cases e; cases hq).trans e }
end Mine
end
section
open PySem PySem.W PyProof.Rows
set_option maxRecDepth 100000
set_option maxHeartbeats 4000000
namespace Mine
variable {w : World} {hT : Heap} {A : Around} {X : Addr → Prop} {env : Env} {bs : List (Str × PyData)}
noncomputable def ftab : List (List (Int × Nat)) := [[(40960, 108), (49152, 115), (32768, 45), (24576, 98), (16384, 100), (8192, 99), (4096, 112)], [(256, 114)], [(128, 119)], [(2112, 115), (2048, 83), (64, 120)], [(32, 114)], [(16, 119)],
  [(1032, 115), (1024, 83), (8, 120)], [(4, 114)], [(2, 119)], [(513, 116), (512, 84), (1, 120)]]
noncomputable def fpair (p : Int × Nat) : PyData := .tuple [.int p.1, .str ⟨#[p.2]⟩]
noncomputable def frow (r : List (Int × Nat)) : PyData := .tuple (r.map fpair)
theorem rp_tupT {a : Addr} {vs : Array Value} {n : Nat} {xs : List PyData} (e : hT.get? a = some { cls := .type "tuple", data := .seq vs n }) (r : RpL (fun q => hT.get? q = none) hT vs.toList xs) : Rp (fun q => hT.get? q = none) hT (.ref a) (.tuple xs) :=
  .tuple e (fun z => by rw [e] at z; cases z) r
theorem rp_ftab (T : Tp w hT) : Rp (fun q => hT.get? q = none) hT (.ref 54) (.tuple (ftab.map frow)) := by
  refine rp_tupT (T.k 54 _ rfl) ?_
  repeat' first | exact .nil | exact .int _ _ | exact .str _ _ | exact rp_tupT (T.k _ _ rfl) ?_ | refine .cons ?_ ?_ | refine rp_tupT (T.k _ _ rfl) ?_
theorem ev_top {x : Str} {pos : Pos} {a : Addr} {d : PyData} (hg : GN hT x (.ref a)) (hx : env.kindOf x = some .globalImplicit) (hgl : env.globals = mainGlobals) (r : Rp (fun q => hT.get? q = none) hT (.ref a) d) (hX : ∀ a, X a → hT.get? a = none)
    (hd : (x == ("__debug__" : Str)) = false := by decide) : EV PR w hT A X env bs (.Name x pos) d := fun s _ ok => nm_global hg hx hgl ok ⟨keeps_refl s, (r.less hX).grow ok.top⟩ hd
noncomputable def fc (i : Nat) (m b : Int) : Bool := if i = 0 then Builtin.bitAnd m 61440 == b else Builtin.bitAnd m b == b
noncomputable def fsg (i : Nat) (m : Int) (row : List (Int × Nat)) : Nat := match row.find? (fun p => fc i m p.1) with | some p => p.2 | none => if i = 0 then 63 else 45
noncomputable def fsigns (m : Int) : List Nat := (List.range ftab.length).map fun i => fsg i m (ftab[i]?.getD [])
noncomputable def sgn1 (c : Nat) : Str := ⟨#[c]⟩
theorem join_signs (l : List Nat) : Txt.join (Str.ofString "") (l.map sgn1) = ⟨l.toArray⟩ := by
  have key : ∀ (r : List Nat) (acc : Array Nat), (r.map sgn1).foldl (fun acc p => acc ++ (Str.ofString "").cps ++ p.cps) acc = acc ++ r.toArray := by
    intro r
    induction r with
    | nil => intro acc; simp
    | cons c r ih =>
      intro acc
      rw [List.map_cons, List.foldl_cons, ih]
      have : (Str.ofString "").cps = #[] := by decide
      rw [this]; simp [sgn1]
  cases l with
  | nil => rfl
  | cons c r =>
    unfold Txt.join
    rw [StrLaws.glued_eq_join, List.map_cons, ← StrLaws.glued_cons, key]
    simp [sgn1]
theorem joinOk_signs (l : List Nat) (h : l.length ≤ 1000) : JoinOk (Str.ofString "") (l.map sgn1) = true := by
  unfold JoinOk
  rw [Bool.not_eq_true']
  refine StrLaws.joinFits (B := 1) ?_ ?_
  · intro y hy
    obtain ⟨c, _, rfl⟩ := List.mem_map.mp hy
    exact Nat.le_refl 1
  · have : (Str.ofString "").length = 0 := by decide
    rw [List.length_map, this]; omega
theorem FC.no {s₀ : Shared} (F : FC hT X s₀ env) : FC hT (fun _ => False) s₀ env := ⟨F.kind, F.top, fun _ q => q.elim, F.priv, F.glob, F.blt, F.apart⟩
theorem find_some {α : Type} (p : α → Bool) : ∀ (l : List α) (k : Nat), l.findIdx? p = some k → ∃ x, l[k]? = some x ∧ p x = true ∧ l.find? p = some x ∧ ∀ j y, j < k → l[j]? = some y → p y = false
  | [], k, h => by simp at h
  | a :: l, k, h => by
    rw [List.findIdx?_cons] at h
    cases ha : p a with
    | true =>
      rw [ha] at h; simp at h; subst h
      exact ⟨a, rfl, ha, by simp [ha], fun j y hj => absurd hj (Nat.not_lt_zero j)⟩
    | false =>
      rw [ha] at h; simp at h
      obtain ⟨k', hk', rfl⟩ := h
      obtain ⟨x, h1, h2, h3, h4⟩ := find_some p l k' hk'
      refine ⟨x, by simpa using h1, h2, by simp [ha, h3], fun j y hj hy => ?_⟩
      cases j with
      | zero => simp at hy; subst hy; exact ha
      | succ j => exact h4 j y (Nat.lt_of_succ_lt_succ hj) (by simpa using hy)
theorem find_none {α : Type} (p : α → Bool) (l : List α) (h : l.findIdx? p = none) : l.find? p = none ∧ ∀ (j : Nat) y, l[j]? = some y → p y = false := by
  rw [List.findIdx?_eq_none_iff] at h
  refine ⟨List.find?_eq_none.mpr fun x hx => by simp [h x hx], fun j y hy => h y (List.mem_of_getElem? hy)⟩
theorem numd_row (tab : List (List (Int × Nat))) (i : Nat) (d : PyData) (hd : (numd (tab.map frow))[i]? = some d) : ∃ row, tab[i]? = some row ∧ d = PyData.tuple [.int (i : Nat), frow row] := by
  have hi : i < tab.length := by have := (List.getElem?_eq_some_iff.mp hd).1; simpa [numd] using this
  simp only [numd, List.getElem?_map, List.length_map, List.getElem?_range hi, Option.map_some, Option.some.injEq] at hd
  refine ⟨tab[i], by simp, ?_⟩
  rw [← hd]; simp [List.getElem?_eq_getElem hi]
theorem fn_filemode (T : Tp w hT) (m : Int) : FN PR w hT 61 [.int m] (.str ⟨(fsigns m).toArray⟩) 2 := by
  refine fn_intro (ps := [Str.ofString "mode"]) (T.k 61 _ rfl) rfl T.lim (codeRec_of T.k (by rfl)) rfl rfl rfl rfl ?_ ?_ rfl ?_
  · rintro s vals _ hl
    obtain ⟨v, rfl⟩ := len1 hl
    exact .of_eq rfl
  · intro n x hx; simp at hx; subst hx; exact .inl rfl
  · intro A X s₀ L hA F s E hsc k
    have hh := hA.1
    refine wpAny_mono (Q := fun fl s' => ∃ v, fl = .ret v ∧ Keeps s₀ s' ∧ Rp (fun _ => False) s'.heap v (.str ⟨(fsigns m).toArray⟩)) ?_ (fun fl s' ⟨v, e, k', r⟩ => ⟨v, e, k', by cases r; exact .str _ _⟩) fun _ _ e => e
    have F := F.no
    have hsc : Sc (fun _ => False) (callEnvC _ L 61) [(Str.ofString "mode", .int m)] s.heap := hsc.more fun _ q => q.elim
    refine wpAny_execs_cons (own_new F (F.storeL rfl) hsc k fun P s₁ hX hn Fo i => ?_)
    have hXT : ∀ a, XD (fun _ => False) P a → hT.get? a = none := fun a q => q.elim (fun z => z.elim) (Fo.psT a)
    have hdd := numd_row ftab
    have hln : (numd (ftab.map frow)).length = ftab.length := by simp [numd]
    refine wpAny_execs_cons (SS.use i (ss_for (ds := numd (ftab.map frow)) (bs' := [(Str.ofString "perm", opq P)]) (ow' := [(P, ((fsigns m).map sgn1).map .str)]) (br := false)
      (fun _ => [(Str.ofString "perm", opq P), (Str.ofString "mode", .int m)])
      (fun i => [(Str.ofString "table", frow (ftab[i]?.getD [])), (Str.ofString "index", .int (i : Nat)), (Str.ofString "perm", opq P), (Str.ofString "mode", .int m)])
      (fun i => [(P, ((List.range i).map fun j => PyData.str (sgn1 (fsg j m (ftab[j]?.getD [])))))]) none Fo (sr2_enum hh T.bn.2.2.2.1 rfl Fo.glob Fo.blt (ev_top T.gn.2.2.2.2.2.2.2.2.2.1 rfl Fo.glob (rp_ftab T) hXT)) ?_ rfl ?_ (by intro k hk; cases hk) ?_ (by intro k hk; cases hk) ?_) ?_)
    · intro x d h; exact h
    · intro i d hd
      obtain ⟨row, hr, rfl⟩ := hdd i d hd
      rw [hr]
      exact asgF_tup [(Str.ofString "index", _), (Str.ofString "table", _)] hh Fo.kind rfl rfl rfl (by intro x hx; simp at hx; rcases hx with rfl | rfl <;> exact Fo.storeL rfl)
    · intro i d hd _
      obtain ⟨row, hr, rfl⟩ := hdd i d hd
      have hi : i < ftab.length := (List.getElem?_eq_some_iff.mp hr).1
      have hi' : i < 10 := hi
      simp only [hr, Option.getD_some]
      rw [List.range_succ, List.map_append, List.map_singleton, hr, Option.getD_some]
      have hlen : ((List.range i).map fun j => PyData.str (sgn1 (fsg j m (ftab[j]?.getD [])))).length ≤ 1000 := by simp; omega
      generalize ((List.range i).map fun j => PyData.str (sgn1 (fsg j m (ftab[j]?.getD [])))) = done at hlen ⊢
      have hz : (((i : Nat) : Int) == (0 : Int)) = decide (i = 0) := by
        by_cases q : i = 0
        · subst q; rfl
        · rw [decide_eq_false q]; simp [q]
      refine sb_last (ss_for (ds := row.map fpair)
        (fun _ => [(Str.ofString "table", frow row), (Str.ofString "index", .int (i : Nat)), (Str.ofString "perm", opq P), (Str.ofString "mode", .int m)])
        (fun j => [(Str.ofString "char", .str (sgn1 ((row[j]?.getD (0, 0)).2))), (Str.ofString "bit", .int (row[j]?.getD (0, 0)).1), (Str.ofString "table", frow row), (Str.ofString "index", .int (i : Nat)), (Str.ofString "perm", opq P), (Str.ofString "mode", .int m)])
        (fun _ => [(P, done)]) (row.findIdx? fun p => fc i m p.1) Fo (SR.two (sr_tuple hh (ev_name rfl))) (fun x d h => h) rfl ?_ ?_ ?_ ?_ ?_) (.inr rfl)
      · intro j d hd
        rw [List.getElem?_map] at hd
        cases hj : row[j]? with
        | none => rw [hj] at hd; cases hd
        | some p =>
          rw [hj] at hd; cases hd
          exact asgF_tup [(Str.ofString "bit", _), (Str.ofString "char", _)] hh Fo.kind rfl rfl rfl (by intro x hx; simp at hx; rcases hx with rfl | rfl <;> exact Fo.storeL rfl)
      · intro k hk
        rw [List.length_map]
        exact (List.findIdx?_eq_some_iff_getElem.mp hk).1
      · intro j d hd hlt
        rw [List.getElem?_map] at hd
        cases hj : row[j]? with
        | none => rw [hj] at hd; cases hd
        | some p =>
          have hf : fc i m p.1 = false := by
            cases hs : row.findIdx? (fun p => fc i m p.1) with
            | none => exact (find_none _ row hs).2 j p hj
            | some k => obtain ⟨_, _, _, _, h4⟩ := find_some _ row k hs; exact h4 j p (hlt k hs) hj
          simp only [hj, Option.getD_some]
          refine sb_last (ss_if (c := decide (i = 0)) (tr_eq (tr_cmp (ev_name rfl) ev_int op_eq_int) hz) (fun h0 => ?_) (fun h0 => ?_)) (.inr rfl)
          · refine sb_last (ss_if (c := false) (tr_eq (tr_cmp (ev_call T.gn.1 rfl Fo.glob (fn_ifmt T m) hA ⟨_, _, T.k 21 _ rfl, rfl⟩ (evl_cons (ev_name rfl) evl_nil)) (ev_name rfl) op_eq_int) ?_) (fun h => nomatch h) (fun _ => sb_nil (weak_of ?_))) (.inr rfl)
            · rw [← hf, fc, if_pos (of_decide_eq_true h0)]
            · intro p hp; simp at hp; rcases hp with rfl | rfl | rfl | rfl <;> rfl
          · refine sb_last (ss_if (c := false) (tr_eq (tr_cmp (ev_bin (ev_name rfl) (ev_name rfl) op_and) (ev_name rfl) op_eq_int) ?_) (fun h => nomatch h) (fun _ => sb_nil (weak_of ?_))) (.inr rfl)
            · rw [← hf, fc, if_neg (of_decide_eq_false h0)]
            · intro p hp; simp at hp; rcases hp with rfl | rfl | rfl | rfl <;> rfl
      · intro k hk
        obtain ⟨p, hj, hf, hfind, _⟩ := find_some _ row k hk
        refine ⟨rfl, ?_⟩
        have hsg : fsg i m row = p.2 := by unfold fsg; rw [hfind]
        simp only [hj, Option.getD_some, hsg]
        refine sb_last (ss_if (c := decide (i = 0)) (tr_eq (tr_cmp (ev_name rfl) ev_int op_eq_int) hz) (fun h0 => ?_) (fun h0 => ?_)) (.inr rfl)
        · refine sb_last (ss_if (c := true) (tr_eq (tr_cmp (ev_call T.gn.1 rfl Fo.glob (fn_ifmt T m) hA ⟨_, _, T.k 21 _ rfl, rfl⟩ (evl_cons (ev_name rfl) evl_nil)) (ev_name rfl) op_eq_int) ?_) (fun _ => ?_) (fun h => nomatch h)) (.inr rfl)
          · rw [← hf, fc, if_pos (of_decide_eq_true h0)]
          · refine sb_cons (ss_append Fo rfl (ev_name rfl) (by intro q hq; cases hq) hlen) (sb_last (ss_break (weak_of ?_)) (.inl rfl))
            intro p hp; simp at hp; rcases hp with rfl | rfl <;> rfl
        · refine sb_last (ss_if (c := true) (tr_eq (tr_cmp (ev_bin (ev_name rfl) (ev_name rfl) op_and) (ev_name rfl) op_eq_int) ?_) (fun _ => ?_) (fun h => nomatch h)) (.inr rfl)
          · rw [← hf, fc, if_neg (of_decide_eq_false h0)]
          · refine sb_cons (ss_append Fo rfl (ev_name rfl) (by intro q hq; cases hq) hlen) (sb_last (ss_break (weak_of ?_)) (.inl rfl))
            intro p hp; simp at hp; rcases hp with rfl | rfl <;> rfl
      · intro hno
        have hsg : fsg i m row = if i = 0 then 63 else 45 := by unfold fsg; rw [(find_none _ row hno).1]
        rw [hsg]
        refine sb_last (ss_if (c := decide (i = 0)) (tr_eq (tr_cmp (ev_name rfl) ev_int op_eq_int) hz) (fun h0 => ?_) (fun h0 => ?_)) (.inr rfl)
        · rw [if_pos (of_decide_eq_true h0)]
          refine sb_cons (ss_append Fo rfl ev_str (by intro q hq; cases hq) hlen) (sb_nil (weak_of ?_))
          intro p hp; simp at hp; rcases hp with rfl | rfl <;> rfl
        · rw [if_neg (of_decide_eq_false h0)]
          refine sb_cons (ss_append Fo rfl ev_str (by intro q hq; cases hq) hlen) (sb_nil (weak_of ?_))
          intro p hp; simp at hp; rcases hp with rfl | rfl <;> rfl
    · intro _
      have : ((List.range (numd (ftab.map frow)).length).map fun j => PyData.str (sgn1 (fsg j m (ftab[j]?.getD [])))) = ((fsigns m).map sgn1).map .str := by
        rw [hln, fsigns, List.map_map, List.map_map]; rfl
      rw [this]
      refine sb_nil (weak_of ?_)
      intro p hp; simp at hp; subst hp; rfl
    · intro s₂ i₂ _
      refine wpAny_execs_cons (wpAny_Return_some (ev_joinQ (X := XD (fun _ => False) P) fun s₃ k₃ => ?_))
      have i₃ := i₂.keeps k₃
      refine EV.use i₃.ok (ev_name (d := opq P) rfl) fun v s₄ k₄ r₄ => ?_
      cases rp_opq r₄
      have i₄ := i₃.keeps k₄
      obtain ⟨vs, n, e, r⟩ := (i₄.own _ (.head _)).2
      refine ⟨P, vs, (fsigns m).map sgn1, n, rfl, e, r, joinOk_signs _ (by simp [fsigns]; decide), fun t' k' => ⟨_, rfl, keeps_trans (keeps_of_mv i₄.mv hn) (keeps_tok _ _), ?_⟩⟩
      rw [join_signs]; exact .str _ _
end Mine
end
section
open PySem PySem.W PyProof.Rows
namespace Mine
variable {prog : Program} {w : World} {hT : Heap} {A : Around} {X : Addr → Prop} {env : Env} {bs : List (Str × PyData)}
/-- all is kept, the frame L but for its slots -/
noncomputable def KL (L : Addr) (s s' : Shared) : Prop := ∃ h' tk, s' = { s with heap := h', toks := tk } ∧ ∀ b o, s.heap.get? b = some o → (b ≠ L → h'.get? b = some o) ∧ (b = L → ∃ sl, h'.get? b = some { o with slots := sl })
theorem KL.of {L : Addr} {s s' : Shared} (k : Keeps s s') : KL L s s' := by
  obtain ⟨h, t, e, g⟩ := k
  exact ⟨h, t, e, fun b o q => ⟨fun _ => g b o q, fun _ => ⟨o.slots, g b o q⟩⟩⟩
theorem KL.trans {L : Addr} {a b c : Shared} (x : KL L a b) (y : KL L b c) : KL L a c := by
  obtain ⟨h, t, rfl, k⟩ := x
  obtain ⟨h', t', rfl, k'⟩ := y
  refine ⟨h', t', rfl, fun b o e => ⟨fun n => (k' b o ((k b o e).1 n)).1 n, fun n => ?_⟩⟩
  obtain ⟨sl, e'⟩ := (k b o e).2 n
  obtain ⟨sl', e''⟩ := (k' b _ e').2 n
  exact ⟨sl', e''⟩
theorem KL.get {L : Addr} {s s' : Shared} (x : KL L s s') : ∀ b o, b ≠ L → s.heap.get? b = some o → s'.heap.get? b = some o := by
  obtain ⟨h, t, rfl, k⟩ := x
  exact fun b o n e => (k b o e).1 n
theorem KL.mv {L : Addr} {s s' : Shared} {Pv : Addr → Prop} (x : KL L s s') (hp : Pv L) : Mv Pv s s' := by
  obtain ⟨h, t, rfl, k⟩ := x
  exact ⟨h, t, rfl, fun b o n e => (k b o e).1 fun q => n (q ▸ hp)⟩
theorem KL.ns {L C : Addr} {m : Str → Option Value} {s s' : Shared} (x : KL L s s') (hn : s.heap.Ns C m) : s'.heap.Ns C m := by
  obtain ⟨h, t, rfl, k⟩ := x
  obtain ⟨o, es, ep, e, r⟩ := hn
  by_cases q : C = L
  · obtain ⟨sl, e'⟩ := (k C o e).2 q
    exact ⟨_, es, ep, e', r⟩
  · exact ⟨o, es, ep, (k C o e).1 q, r⟩
theorem KL.cell {L C : Addr} {m : Option Value} {s s' : Shared} (x : KL L s s') (hn : s.heap.IsCell C m) : s'.heap.IsCell C m := by
  obtain ⟨h, t, rfl, k⟩ := x
  obtain ⟨o, e, r⟩ := hn
  by_cases q : C = L
  · obtain ⟨sl, e'⟩ := (k C o e).2 q
    exact ⟨_, e', r⟩
  · exact ⟨o, (k C o e).1 q, r⟩
theorem KL.calm {L : Addr} {m : Str → Option Value} {s s' : Shared} (x : KL L s s') (hn : s.heap.Ns L m) : Calm X s.heap s'.heap := fun a o vs n _ c e => by
  refine x.get a o (fun q => ?_) e
  subst q
  obtain ⟨o', _, _, e', d, _⟩ := hn
  rw [e] at e'; cases e'; rw [c] at d; cases d
theorem KL.sc {L : Addr} {m : Str → Option Value} {s s' : Shared} (x : KL L s s') (hL : s.heap.Ns L m) (hsc : Sc X env bs s.heap) : Sc X env bs s'.heap := by
  obtain ⟨m', cm, a, b, c⟩ := hsc
  exact ⟨m', cm, x.ns a, fun n c' e => x.cell (b n c' e), fun y d e => let ⟨v, r, z⟩ := c y d e; ⟨v, r.calm (x.calm hL), z⟩⟩
theorem KL.xi {L : Addr} {s s' : Shared} (x : KL L s s') (h : XI X s.heap) : XI X s'.heap := fun a q => by
  obtain ⟨h', t, rfl, k⟩ := x
  obtain ⟨o, e⟩ := h a q
  by_cases z : a = L
  · obtain ⟨sl, e'⟩ := (k a o e).2 z; exact ⟨_, e'⟩
  · exact ⟨o, (k a o e).1 z⟩
/-- a comprehension's parts, whatever it gathers -/
structure CmpG (prog : Program) (w : World) (hT : Heap) (A : Around) (env : Env) (bs : List (Str × PyData)) (target : PySem.Expr) (scope : Scope) (cl : List (Str × Addr)) (cbs : List (Str × PyData))
    (ds : List PyData) (tb : PyData → List (Str × PyData)) : Prop where
  clos : closureFor scope env = pure cl
  kind : scope.kind = .function
  names : ∀ x ∈ scope.names, x.2 = .local → scope.names.lookup x.1 = some .local
  cells : ∀ n c, cl.lookup n = some c → env.cells.lookup n = some c
  cap : ∀ C x d, cbs.lookup x = some d → bs.lookup x = some d ∧ (env.kindOf x = some .cell ∨ env.kindOf x = some .free) ∧
      ((cEnv scope cl C env).kindOf x = some .cell ∨ (cEnv scope cl C env).kindOf x = some .free) ∧ (cEnv scope cl C env).cells.lookup x = env.cells.lookup x
  asg : ∀ C Y, CL cl C → ∀ d ∈ ds, Asg prog w A Y (fun a => C ≤ a) (cEnv scope cl C env) cbs target d (tb d)
  weak : ∀ d ∈ ds, ∀ x e, cbs.lookup x = some e → (tb d).lookup x = some e
  hTL : hT.get? env.locals = none
theorem comp_coreG {e target iter : PySem.Expr} {scope : Scope} {cl : List (Str × Addr)} {cbs : List (Str × PyData)} {ds : List PyData} {tb : PyData → List (Str × PyData)} {newAcc : Sem Value} {ao : Obj} {stepT : Value → Env → Sem Unit}
    {RR : Value → Addr → Result → Shared → Prop} {s : Shared} {E : Value → Shared → Prop} (Acc : Addr → Nat → Heap → Prop) (K : CmpG prog w hT A env bs target scope cl cbs ds tb) (hsrc : SR prog w hT A X env bs iter ds) (ok : Ok hT X env bs s.heap)
    (hnew : ∀ (s : Shared) (Q : Value → Shared → Prop), Q (.ref s.heap.objs.size) { s with heap := s.heap.push ao } → wpAny (model prog w) A newAcc Q E s) (hao : ao.isFreed = false)
    (hq : ∀ it acc cenv, (Code.compLoop e 0 it acc cenv).quiet = true) (hun : ∀ it acc cenv, A.under (.compLoop e 0 it acc cenv) = A)
    (hden : ∀ it acc cenv, (model prog w).den (.compLoop e 0 it acc cenv) = (compTurn e 0 it acc cenv).onRaise (fun x => do noteFrame x cenv; theTreesLotGoes x))
    (turn : ∀ it acc cenv, compTurn e 0 it acc cenv = (standAt iter.pos >>= fun _ => pyNext it >>= fun r => match r with
      | none => pure (.done .next)
      | some v => letOwnedTupleGo target it v >>= fun _ => assign target cenv v >>= fun _ => stepT acc cenv >>= fun _ => again (.compLoop e 0 it acc cenv)))
    (start : ∀ it acc cenv (R : Result → Shared → Prop) (s : Shared), codeAny (model prog w) A (.compLoop e 0 it acc cenv) R s → wpAny (model prog w) A (pyIter it) (fun it' s' => codeAny (model prog w) A (.compLoop e 0 it' acc cenv) R s') (notedBy (model prog w) A cenv fun x s' => R (.error x) s') s →
      codeAny (model prog w) A (.compStart e 0 it acc cenv) R s)
    (haccO : ∀ D i h, Acc D i h → ∃ o, h.get? D = some o ∧ (∀ es ep, o.data ≠ .dict es ep) ∧ ∀ v, o.data ≠ .cell v)
    (hacc0 : ∀ D h, h.get? D = some ao → Acc D 0 h)
    (haccF : ∀ D i h h', Acc D i h → Calm (XD X D) h h' → (∀ o, h.get? D = some o → h'.get? D = some o) → Acc D i h')
    (hstep : ∀ (C D : Addr) (i : Nat) (d : PyData) (s₁ : Shared) (E : Value → Shared → Prop), CL cl C → ds[i]? = some d → ¬ X D → D ≠ env.locals → D < C → Ok hT (XD X D) (cEnv scope cl C env) (tb d) s₁.heap → KL env.locals s s₁ → (∃ m, s₁.heap.Ns env.locals m) → Acc D i s₁.heap →
      wpAny (model prog w) A (stepT (.ref D) (cEnv scope cl C env)) (fun _ s₂ => ∃ s₃, KL env.locals s₁ s₃ ∧ Mv (fun a => a = D) s₃ s₂ ∧ (∃ o, s₂.heap.get? D = some o) ∧ Acc D (i + 1) s₂.heap) E s₁)
    (hRR : ∀ D C s', KL env.locals s s' → s.heap.get? D = none → s.heap.get? C = none → D ≠ C → (∃ m, s'.heap.Ns C m) → Acc D ds.length s'.heap → RR (.ref D) C (.ok .next) s') :
    wpAny (model prog w) A (eval iter env) (fun x s₁ => wpAny (model prog w) A (pyIter x) (fun it s₂ => wpAny (model prog w) A newAcc (fun acc s₃ =>
      wpAny (model prog w) A (newFunctionEnv scope env.globals cl [] env.qual none .none (some env)) (fun cenv s₄ =>
        codeAny (model prog w) A (.compStart e 0 it acc { cenv with scope := relabel scope env }) (RR acc cenv.locals) s₄) E s₃) E s₂) E s₁) E s := by
  refine wpAny_mono (hsrc s E ok) (fun x s₁ h₁ => wpAny_mono h₁ (fun it s₂ h₂ => ?_) fun _ _ e => e) fun _ _ e => e
  obtain ⟨I, St, rfl, hIn, k₂, W, st⟩ := h₂
  refine hnew s₂ _ ?_
  let D := s₂.heap.objs.size
  let h₃ := s₂.heap.push ao
  have hDn : s₂.heap.get? D = none := none_of_lt (Grow.refl _) (Nat.le_refl _)
  have hIlt : I < D := by
    obtain ⟨o, fs, e, _⟩ := (W.wk X).fields _ _ st
    exact Heap.lt_size e
  have g₃ : Grow s₂.heap h₃ := grow_push _ _
  have hsz : h₃.objs.size = D + 1 := Heap.size_push ..
  have ok₂ := ok.keeps k₂
  have st₂ : St (XD X D) 0 s₂.heap := W.more X (XD X D) 0 _ st fun a ha => ha.imp id fun q => by subst q; exact hDn
  have st₃ : St (XD X D) 0 h₃ := (W.wk _).frame _ _ _ st₂ (calm_grow g₃) fun o e => g₃ I o e
  have sc₂ : Sc (XD X D) env bs s₂.heap := ok₂.sc.more fun a ha => ha.imp id fun q => by subst q; exact hDn
  have sc₃ : Sc (XD X D) env bs h₃ := sc₂.grow g₃
  refine newEnv_comp ?_
  show codeAny _ A (.compStart _ 0 (.ref I) (.ref D) (cEnv scope cl h₃.objs.size env)) (RR (.ref D) h₃.objs.size) { s₂ with heap := pushCells (h₃.push { cls := .type "dict", data := .dict #[] }) scope.names }
  have g₄ : Grow h₃ (pushCells (h₃.push { cls := .type "dict", data := .dict #[] }) scope.names) := fun b o e => pushCells_keeps _ _ b o (Heap.get?_push_of_some _ e)
  have sc₄ := sc_start (scope := scope) (cl := cl) (cbs := cbs) sc₃ K.cells (K.cap h₃.objs.size)
  have hCL : CL cl h₃.objs.size := fun n c e => by
    obtain ⟨_, cm, _, hc, _⟩ := sc₃
    exact (hc n c (K.cells n c e)).lt
  have hDs : s.heap.get? D = none := none_of_lt (keeps_grow k₂) (Nat.le_refl _)
  have hCs : ∀ a, h₃.objs.size ≤ a → s.heap.get? a = none := fun a ha => none_of_lt ((keeps_grow k₂).trans g₃) ha
  have hDC : D < h₃.objs.size := by rw [hsz]; exact Nat.lt_succ_self _
  obtain ⟨mL, cmL, hL, _⟩ := ok.sc
  have hne : ∀ a, s.heap.get? a = none → a ≠ env.locals := fun a e q => by
    obtain ⟨o, _, _, e', _⟩ := hL
    rw [q, e'] at e; cases e
  have hXD : ¬ X D := ok.xi.notnone hDs
  have hXb : ∀ s' : Shared, KL env.locals s s' → (∃ o, s'.heap.get? D = some o) → XI (XD X D) s'.heap := fun s' k hd a ha => by
    rcases ha with ha | rfl
    · exact k.xi ok.xi a ha
    · exact hd
  have htop : ∀ s' : Shared, KL env.locals s s' → Grow hT s'.heap := fun s' k b o e => k.get b o (fun q => by rw [q, K.hTL] at e; cases e) (ok.top b o e)
  generalize h₃.objs.size = C at *
  have loop : ∀ sx : Shared, sx = { s₂ with heap := pushCells (h₃.push { cls := .type "dict", data := .dict #[] }) scope.names } →
      codeAny (model prog w) A (.compLoop e 0 (.ref I) (.ref D) (cEnv scope cl C env)) (RR (.ref D) C) sx := by
    rintro sx rfl
    refine codeAny_loop (hq _ _ _) (fun n s' => ∃ k, k ≤ ds.length ∧ n = ds.length + 1 - k ∧ KL env.locals s s' ∧ St (XD X D) k s'.heap ∧ (∃ o, s'.heap.get? D = some o) ∧ Acc D k s'.heap ∧ Sc (XD X D) (cEnv scope cl C env) cbs s'.heap) ?_ (ds.length + 1) ?_
    · rintro n s₀ ⟨k, hkl, rfl, kp, st, hD, hacc, sc⟩
      rw [hun, hden]
      refine wpAny_noted ?_
      rw [turn]
      refine wpAny_bind (wpAny_standAt (wpAny_bind ?_))
      obtain ⟨oI, fs, hI, hIf⟩ := (W.wk (XD X D)).fields _ _ st
      have mvI : ∀ {h : Heap} {tk : Nat}, (∀ b o, b ≠ I → s₀.heap.get? b = some o → h.get? b = some o) → KL env.locals s { s₀ with heap := h, toks := tk } := fun k => by
        obtain ⟨h', t', rfl, g⟩ := kp
        refine ⟨_, _, rfl, fun b o e => ?_⟩
        have hbI : b ≠ I := fun q => by rw [q, hIn] at e; cases e
        exact ⟨fun n => k b o hbI ((g b o e).1 n), fun n => let ⟨sl, e'⟩ := (g b o e).2 n; ⟨sl, k b _ hbI e'⟩⟩
      have hLn : ∀ s' : Shared, KL env.locals s s' → s'.heap.Ns env.locals mL := fun s' k => k.ns hL
      by_cases hlt : k < ds.length
      · have hd : ds[k]? = some ds[k] := by simp
        have hm : ds[k] ∈ ds := List.getElem_mem _
        refine (W.wk (XD X D)).item k s₀ _ _ ds[k] hd st fun v h₁ tk₁ rv st₁ k₁ => ?_
        have c₁ : Calm (XD X D) s₀.heap h₁ := calm_fields hI hIf k₁
        have sc₁ : Sc (XD X D) (cEnv scope cl C env) cbs h₁ := sc.but hI (fun _ _ q => by rw [hIf] at q; cases q) (fun _ q => by rw [hIf] at q; cases q) c₁ k₁
        have kp₁ := mvI (tk := tk₁) k₁
        have hDI : D ≠ I := Nat.ne_of_gt hIlt
        refine wpAny_bind ((W.wk (XD X D)).owns _ _ _ _ _ _ st₁ ?_)
        refine wpAny_bind (K.asg C _ hCL _ hm { s₀ with heap := h₁, toks := tk₁ } v _ _ sc₁ rv fun s₂' sc₂ mv₂ c₂ => ?_)
        have hPD : ¬ (C ≤ D) := Nat.not_le.mpr hDC
        have hPI : ¬ (C ≤ I) := Nat.not_le.mpr (Nat.lt_trans hIlt hDC)
        have kp₂ : KL env.locals s s₂' := by
          obtain ⟨h', t', e', g⟩ := kp₁
          obtain ⟨h'', t'', rfl, g'⟩ := mv₂
          have e1 := congrArg Shared.heap e'
          simp only at e1
          subst e1
          refine ⟨h'', t'', by have := congrArg (fun x : Shared => ({ x with heap := h'', toks := t'' } : Shared)) e'; exact this, fun b o e => ?_⟩
          have hb : ¬ (C ≤ b) := fun q => by rw [hCs b q] at e; cases e
          exact ⟨fun n => g' b o hb ((g b o e).1 n), fun n => let ⟨sl, e'⟩ := (g b o e).2 n; ⟨sl, g' b _ hb e'⟩⟩
        have hD₂ : ∃ o, s₂'.heap.get? D = some o := let ⟨o, e⟩ := hD; ⟨o, mv₂.get D o hPD (k₁ D o hDI e)⟩
        have hacc₂ : Acc D k s₂'.heap := haccF D k _ _ (haccF D k _ _ hacc c₁ fun o e => k₁ D o hDI e) c₂ fun o e => mv₂.get D o hPD e
        have st₂' := (W.wk (XD X D)).frame _ _ _ st₁ c₂ fun o e => mv₂.get I o hPI e
        have ok₂' : Ok hT (XD X D) (cEnv scope cl C env) (tb ds[k]) s₂'.heap := ⟨K.kind, sc₂, htop _ kp₂, hXb _ kp₂ hD₂⟩
        refine wpAny_bind (wpAny_mono (hstep C D k ds[k] s₂' _ hCL hd hXD (hne D hDs) hDC ok₂' kp₂ ⟨_, hLn _ kp₂⟩ hacc₂) ?_ fun _ _ e => e)
        rintro _ s₄ ⟨s₃, kl, mv₄, hD₄, hacc₄⟩
        have kp₃ := kp₂.trans kl
        have c₃ : Calm (XD X D) s₂'.heap s₃.heap := kl.calm (hLn _ kp₂)
        have c₄ : Calm (XD X D) s₃.heap s₄.heap := fun a o vs n na _ e => mv₄.get a o (fun q => na (.inr q)) e
        have kp₄ : KL env.locals s s₄ := by
          obtain ⟨h', t', rfl, g⟩ := kp₃
          obtain ⟨h'', t'', rfl, g'⟩ := mv₄
          refine ⟨h'', t'', rfl, fun b o e => ?_⟩
          have hb : b ≠ D := fun q => by rw [q, hDs] at e; cases e
          exact ⟨fun n => g' b o hb ((g b o e).1 n), fun n => let ⟨sl, e'⟩ := (g b o e).2 n; ⟨sl, g' b _ hb e'⟩⟩
        have hIL : I ≠ env.locals := hne I hIn
        have st₃' := (W.wk (XD X D)).frame _ _ _ st₂' c₃ fun o e => kl.get I o hIL e
        have st₄ := (W.wk (XD X D)).frame _ _ _ st₃' c₄ fun o e => mv₄.get I o (Ne.symm hDI) e
        have sc₃' : Sc (XD X D) (cEnv scope cl C env) cbs s₃.heap := (kl.sc (hLn _ kp₂) sc₂).weak (K.weak _ hm)
        obtain ⟨oD, hoD, hn1, hn2⟩ := haccO D k _ (haccF D k _ _ hacc₂ c₃ fun o e => kl.get D o (hne D hDs) e)
        have sc₄' : Sc (XD X D) (cEnv scope cl C env) cbs s₄.heap := sc₃'.but hoD hn1 hn2 c₄ fun b o nb e => mv₄.get b o nb e
        exact wpAny_pure ⟨rfl, ds.length + 1 - (k + 1), by omega, k + 1, hlt, rfl, kp₄, st₄, hD₄, hacc₄, sc₄'⟩
      · have hk' : k = ds.length := by omega
        subst hk'
        refine (W.wk (XD X D)).done s₀ _ _ st fun h₁ tk₁ k₁ => ?_
        have c₁ : Calm (XD X D) s₀.heap h₁ := calm_fields hI hIf k₁
        have kp₁ := mvI (tk := tk₁) k₁
        have sc₁ : Sc (XD X D) (cEnv scope cl C env) cbs h₁ := sc.but hI (fun _ _ q => by rw [hIf] at q; cases q) (fun _ q => by rw [hIf] at q; cases q) c₁ k₁
        obtain ⟨m, _, hn, _⟩ := sc₁
        exact wpAny_pure (hRR D C _ kp₁ hDs (hCs _ (Nat.le_refl _)) (Nat.ne_of_lt hDC) ⟨m, hn⟩ (haccF D _ _ _ hacc c₁ fun o e => k₁ D o (Nat.ne_of_gt hIlt) e))
    · exact ⟨0, Nat.zero_le _, rfl, KL.of (keeps_trans k₂ ⟨_, s₂.toks, rfl, g₃.trans g₄⟩), (W.wk _).frame _ _ _ st₃ (calm_grow g₄) fun o e => g₄ I o e, ⟨_, g₄ _ _ (Heap.get?_push_size _ hao)⟩, hacc0 D _ (g₄ _ _ (Heap.get?_push_size _ hao)), sc₄⟩
  exact start _ _ _ _ _ (loop _ rfl) ((W.wk _).self 0 _ _ _ ((W.wk _).frame _ _ _ st₃ (calm_grow g₄) fun o e => g₄ I o e) (loop _ rfl))
/-- a comprehension, stored at once -/
theorem store_acc {y : Str} {py : Pos} {D C : Addr} {d : PyData} {s s' : Shared} {E : Value → Shared → Prop} {Q : Flow → Shared → Prop} (ok : Ok hT X env bs s.heap) (hst : StoreAt (PvE env) env y)
    (kp : KL env.locals s s') (hC : s.heap.get? C = none) {m : Str → Option Value} (hn : s'.heap.Ns C m) (r : Rp X s'.heap (.ref D) d)
    (h : ∀ s'', Sc X env ((y, d) :: bs) s''.heap → Mv (PvE env) s s'' → Q .next s'') :
    wpAny (model prog w) A (assign (.Name y py) env (.ref D)) (fun _ s'' => ∃ m, s''.heap.Ns C m ∧ ∀ h', Heap.SameBut C s''.heap h' → Q .next { s'' with heap := h' }) E s' := by
  obtain ⟨mL, cmL, hL, _⟩ := ok.sc
  refine assign_name (Pv := PvE env) ok.kind (kp.sc hL ok.sc) r hst fun s₂ sc₂ mv₂ c₂ => ?_
  have hnP : ¬ PvE env C := fun q => by
    obtain ⟨m₀, _, hn₀, hc₀, _⟩ := ok.sc
    rcases q with q | ⟨n, q⟩
    · obtain ⟨o, _, _, e, _⟩ := hn₀
      rw [← q, hC] at e; cases e
    · obtain ⟨o, e, _⟩ := hc₀ n C q
      rw [hC] at e; cases e
  have hn₂ : s₂.heap.Ns C m := hn.at' fun o e => mv₂.get C o hnP e
  refine ⟨m, hn₂, fun h' hs' => ?_⟩
  have mv : Mv (PvE env) s { s₂ with heap := h' } := by
    obtain ⟨g, t, rfl, k⟩ := (kp.mv (Pv := PvE env) (.inl rfl)).trans mv₂
    exact ⟨h', t, rfl, fun b o nb e => hs'.extBut b o (fun q => by subst q; rw [hC] at e; cases e) (k b o nb e)⟩
  refine h _ ?_ mv
  obtain ⟨m', cm', a, b, c⟩ := sc₂
  have calm : Calm X s₂.heap h' := calm_ns hn₂ hs'
  exact ⟨m', cm', a.sameBut hs' fun q => hnP (.inl q.symm), fun n c' e => (b n c' e).sameBut hs' (ns_ne_cell hn₂ (b n c' e)).symm, fun x d e => let ⟨v, rv, z⟩ := c x d e; ⟨v, rv.calm calm, z⟩⟩
/-- a list that a comprehension fills -/
noncomputable def AccL (X : Addr → Prop) (fs : List PyData) (D : Addr) (h : Heap) : Prop := ∃ ys n, h.get? D = some { cls := .type "list", data := .seq ys n } ∧ RpL (XD X D) h ys.toList fs
theorem accL_F {fs : List PyData} {D : Addr} {h h' : Heap} (a : AccL X fs D h) (c : Calm (XD X D) h h') (k : ∀ o, h.get? D = some o → h'.get? D = some o) : AccL X fs D h' := let ⟨ys, n, e, r⟩ := a; ⟨ys, n, k _ e, r.calm c⟩
theorem accL_rp {fs : List PyData} {D : Addr} {h : Heap} (a : AccL X fs D h) (hD : ¬ X D) : Rp X h (.ref D) (.list fs) := let ⟨_, _, e, r⟩ := a; .list e hD (r.less fun _ => .inl)
/-- append to it -/
theorem accL_push {fs : List PyData} {D : Addr} {s : Shared} {v : Value} {d : PyData} {E : Value → Shared → Prop} {Q : Value → Shared → Prop} (a : AccL X fs D s.heap) (hl : fs.length ≤ 1000000) (r : Rp (XD X D) s.heap v d)
    (h : ∀ s', Mv (fun a => a = D) s s' → (∃ o, s'.heap.get? D = some o) → AccL X (fs ++ [d]) D s'.heap → Q .none s') : wpAny (model prog w) A (call (.builtin "list.append") [.ref D, v]) Q E s := by
  obtain ⟨ys, n, e, rl⟩ := a
  have l1 := rl.length
  simp only [Array.length_toList] at l1
  refine wpAny_list_append_plain (hsz := by show _ ≤ 2 ^ 24; omega) ⟨_, e⟩ fun h' ⟨n', e'⟩ hs => ?_
  have c : Calm (XD X D) s.heap h' := fun a o vs n na _ e => hs.extBut a o (fun q => na (.inr q)) e
  exact h _ ⟨h', s.toks, rfl, fun b o nb e => hs.extBut b o nb e⟩ ⟨_, e'⟩ ⟨_, n', e', by rw [Array.toList_push]; exact (rl.calm c).append (.cons (r.calm c) .nil)⟩
theorem compTurn_f (elt target iter cond : PySem.Expr) (scope : Scope) (pos : Pos) (it acc : Value) (env : Env) :
    compTurn (.ListComp elt [⟨target, iter, [cond], 0⟩] scope pos) 0 it acc env = (standAt iter.pos >>= fun _ => pyNext it >>= fun r => match r with
      | none => pure (.done .next)
      | some v => letOwnedTupleGo target it v >>= fun _ => assign target env v >>= fun _ =>
        (isTrue cond env (eval cond env) >>= fun ok => if ok then (eval elt env >>= fun x => call (.builtin "list.append") [acc, x] >>= fun _ => pure ()) else pure ()) >>= fun _ =>
          again (.compLoop (.ListComp elt [⟨target, iter, [cond], 0⟩] scope pos) 0 it acc env)) := by
  unfold compTurn
  simp only [List.getElem?_cons_zero]
  show (standAt iter.pos >>= fun _ => pyNext it >>= _) = _
  congr 1; funext _; congr 1; funext r
  cases r with
  | none => rfl
  | some v =>
    show (letOwnedTupleGo target it v >>= fun _ => assign target env v >>= fun _ => _) = _
    congr 1; funext _; congr 1; funext _
    simp only [List.forIn_cons, List.forIn_nil, if_true, bind_assoc, pure_bind, List.getElem?_cons_succ, List.getElem?_nil]
    congr 1; funext ok
    cases ok <;> simp
end Mine
end
section
open PySem PySem.W PyProof.Rows
namespace Mine
variable {prog : Program} {w : World} {hT : Heap} {A : Around} {X : Addr → Prop} {env : Env} {bs : List (Str × PyData)} {ps : Addr → Prop} {s₀ : Shared} {ow : Own}
theorem FI.perm {ow' : Own} {s : Shared} (i : FI hT X env ps s₀ bs ow s) (h : ∀ p ∈ ow', p ∈ ow) : FI hT X env ps s₀ bs ow' s := ⟨i.mv, i.ok, fun p hp => i.own p (h p hp)⟩
/-- nothing private: for reading alone -/
noncomputable abbrev Xno : Addr → Prop := fun _ => False
/-- a name that holds a list of one's own, seen as the list -/
theorem FI.see {x : Str} {a : Addr} {ds : List PyData} {s : Shared} (i : FI hT X env ps s₀ bs ow s) (hx : bs.lookup x = some (opq a)) (hm : (a, ds) ∈ ow) : Ok s.heap Xno env ((x, .list ds) :: bs) s.heap := by
  obtain ⟨m, cm, hn, hc, hb⟩ := i.ok.sc
  refine ⟨i.ok.kind, ⟨m, cm, hn, hc, fun y d e => ?_⟩, Grow.refl _, fun _ q => q.elim⟩
  rw [List.lookup_cons] at e
  by_cases q : y = x
  · subst q
    simp at e; subst e
    obtain ⟨v, r, z⟩ := hb y _ hx
    cases rp_opq r
    obtain ⟨vs, n, e, rl⟩ := (i.own _ hm).2
    exact ⟨_, .list e (fun z => z) (rl.less fun _ z => z.elim), z⟩
  · rw [beq_eq_false_iff_ne.mpr q] at e
    obtain ⟨v, r, z⟩ := hb y d e
    exact ⟨v, r.less fun _ z => z.elim, z⟩
theorem ss_assign_seen {e : PySem.Expr} {x y : Str} {p pos : Pos} {a : Addr} {ds : List PyData} {c : Str} (F : FO hT X env ps s₀) (hx : bs.lookup x = some (opq a)) (hm : (a, ds) ∈ ow) (he : ∀ h, EV prog w h A Xno env ((x, .list ds) :: bs) e (.str c)) (hs : StoreAt (PvE env) env y)
    (hsw : swapsWith e (some (.Name y p)) pos.line env = pure false := by rfl) : SS prog w hT A X env ps s₀ bs ow (.Assign [.Name y p] e pos) false ((y, .str c) :: bs) ow := by
  intro s E i
  refine wpAny_Assign_Name (wpAny_mono (he s.heap s E (i.see hx hm)) ?_ fun _ _ e => e) hsw
  rintro v s₁ ⟨k₁, r₁⟩
  have r₁' : Rp X s₁.heap v (.str c) := by cases r₁; exact .str _ _
  refine sc_store F.kind (i.keeps k₁).ok.sc r₁' hs fun s₂ sc₂ mv₂ c₂ => ?_
  exact ⟨(Mv.of k₁).trans (mv₂.more fun a q => .inl q), rfl, (i.keeps k₁).stored F sc₂ mv₂ c₂⟩
theorem ss_if_seen {t : PySem.Expr} {body orelse : List PySem.Stmt} {pos : Pos} {c br : Bool} {bs' : Bs} {ow' : Own} {x : Str} {a : Addr} {ds : List PyData} (hx : bs.lookup x = some (opq a)) (hm : (a, ds) ∈ ow)
    (ht : ∀ h, TR prog w h A Xno env ((x, .list ds) :: bs) t c) (hb : c = true → SB prog w hT A X env ps s₀ bs ow body br bs' ow')
    (he : c = false → SB prog w hT A X env ps s₀ bs ow orelse br bs' ow') : SS prog w hT A X env ps s₀ bs ow (.If t body orelse pos) br bs' ow' := by
  intro s E i
  refine wpAny_If (wpAny_mono (ht s.heap s E (i.see hx hm)) ?_ fun _ _ e => e)
  rintro b s₁ ⟨rfl, k₁⟩
  have post : ∀ fl s₂, (MvF env ps s₁ s₂ ∧ fl = flow br ∧ FI hT X env ps s₀ bs' ow' s₂) → MvF env ps s s₂ ∧ fl = flow br ∧ FI hT X env ps s₀ bs' ow' s₂ := fun fl s₂ q => ⟨(Mv.of k₁).trans q.1, q.2⟩
  cases b with
  | true => rw [if_pos rfl]; exact wpAny_mono (hb rfl s₁ E (i.keeps k₁)) post fun _ _ e => e
  | false => rw [if_neg (by decide)]; exact wpAny_mono (he rfl s₁ E (i.keeps k₁)) post fun _ _ e => e
/-- del x[0] -/
theorem ss_del0 {x : Str} {p ip sp pos : Pos} {k : Nat} {P : Addr} {d : PyData} {ds : List PyData} (F : FO hT X env ps s₀) (hx : bs.lookup x = some (opq P)) (hP : ∀ q ∈ ow, q.1 ≠ P) (hlen : ds.length ≤ 1000)
    (hd : (x == ("__debug__" : Str)) = false := by decide) (hc : (x == ("__classdict__" : Str)) = false := by decide) :
    SS prog w hT A X env ps s₀ bs ((P, d :: ds) :: ow) (.Delete [.Subscript (.Name x p) (.Constant (.int 0) k ip) sp] pos) false bs ((P, ds) :: ow) := by
  intro s E i
  refine wpAny_Delete (wpAny_deleteEach_cons (wpAny_delete_Subscript (wpAny_mono (ev_name (X := X) (pos := p) hx hd hc s E i.ok) ?_ fun _ _ e => e)))
  rintro v s₁ ⟨k₁, r₁⟩
  cases rp_opq r₁
  refine wpAny_Constant_int ?_
  have i₁ := (i.keeps k₁).keeps (keeps_tok s₁ (s₁.toks + 1))
  obtain ⟨vs, n, e, rl⟩ := (i₁.own (P, d :: ds) (.head _)).2
  have hl := rl.length
  simp only [Array.length_toList, List.length_cons] at hl
  have hp := (i.own (P, d :: ds) (.head _)).1
  refine delItem_at (k := 0) e (by decide +kernel) ?_ (fun h' hs he => wpAny_deleteEach_nil ?_) (by show _ ≤ 2 ^ 24; omega)
  · rw [hl]; simp [seqIndex?]
  · refine ⟨(Mv.of k₁).trans ((Mv.of (keeps_tok s₁ (s₁.toks + 1))).trans ⟨h', _, rfl, fun b o nb q => (hs.2 b fun z => nb (.inr (z ▸ hp))).trans q⟩), rfl, i₁.turned F hP hs he ?_⟩
    rw [List.toList_toArray]
    cases hv : vs.toList with
    | nil => rw [hv] at rl; cases rl
    | cons v₀ vr => rw [hv] at rl; cases rl with
      | cons _ r2 => exact r2
theorem calm_pv {s s' : Shared} (hsc : Sc X env bs s.heap) (q : Mv (PvE env) s s') : Calm X s.heap s'.heap := fun a o vs n na hq e => by
  refine q.get a o (fun z => ?_) e
  obtain ⟨m, cm, hn, hc, _⟩ := hsc
  rcases z with rfl | ⟨n', z⟩
  · obtain ⟨o', _, _, e', hd', _⟩ := hn; rw [e] at e'; cases e'; rw [hq] at hd'; cases hd'
  · obtain ⟨o', e', hd'⟩ := hc n' a z; rw [e] at e'; cases e'; rw [hq] at hd'; cases hd'
/-- y = [x for x in y if x] over lists of one's own -/
noncomputable def keptQ (qs : List (Addr × List PyData)) : List (Addr × List PyData) := qs.filter fun q => !q.2.isEmpty
noncomputable def opqs (qs : List (Addr × List PyData)) : List PyData := qs.map fun q => opq q.1
theorem filter_core {x y : Str} {p1 p2 p3 pi pos : Pos} {scope : Scope} {qs : List (Addr × List PyData)} {s : Shared} {E : Value → Shared → Prop} {RR : Value → Addr → Result → Shared → Prop} (F : FO hT X env ps s₀) (i : FI hT X env ps s₀ bs ow s) (hq : ∀ q ∈ qs, q ∈ ow) (hlen : qs.length ≤ 1000) (hqlen : ∀ q ∈ qs, q.2.length ≤ 1000)
    (K : CmpG prog w hT A env bs (.Name x p1) scope [] [] (opqs qs) (fun d => [(x, d)])) (hsrc : SR prog w hT A X env bs (.Name y pi) (opqs qs))
    (hd : (x == ("__debug__" : Str)) = false) (hc : (x == ("__classdict__" : Str)) = false)
    (hRR : ∀ D C s', KL env.locals s s' → s.heap.get? D = none → s.heap.get? C = none → D ≠ C → (∃ m, s'.heap.Ns C m) → Rp X s'.heap (.ref D) (.list (opqs (keptQ qs))) → RR (.ref D) C (.ok .next) s') :
    wpAny (model prog w) A (eval (.Name y pi) env) (fun x' s₁ => wpAny (model prog w) A (pyIter x') (fun it s₂ => wpAny (model prog w) A (newList []) (fun acc s₃ =>
      wpAny (model prog w) A (newFunctionEnv scope env.globals [] [] env.qual none .none (some env)) (fun cenv s₄ =>
        codeAny (model prog w) A (.compStart (.ListComp (.Name x p2) [⟨.Name x p1, .Name y pi, [.Name x p3], 0⟩] scope pos) 0 it acc { cenv with scope := relabel scope env }) (RR acc cenv.locals) s₄) E s₃) E s₂) E s₁) E s := by
  refine comp_coreG (RR := RR) (fun D k h => AccL X (opqs (keptQ (qs.take k))) D h) K hsrc i.ok (ao := { cls := .type "list", data := .seq #[] })
      (stepT := fun acc cenv => isTrue (.Name x p3) cenv (eval (.Name x p3) cenv) >>= fun ok => if ok then (eval (.Name x p2) cenv >>= fun v => call (.builtin "list.append") [acc, v] >>= fun _ => pure ()) else pure ())
      (fun s Q h => wpAny_newObj_type h (by show (#[] : Array Value).size ≤ 2 ^ 24; decide)) rfl (fun _ _ _ => rfl) (fun _ _ _ => rfl) (fun _ _ _ => rfl) (fun it acc cenv => compTurn_f _ _ _ _ _ _ it acc cenv) (fun it acc cenv R s h1 h2 => codeAny_compStart_list h1 h2) ?_ ?_ ?_ ?_ ?_
  · rintro D k h ⟨ys, n, e, _⟩
    exact ⟨_, e, fun _ _ z => (nomatch z), fun _ z => (nomatch z)⟩
  · intro D h e
    exact ⟨#[], 0, e, .nil⟩
  · intro D k h h' a c k'
    exact accL_F a c k'
  · intro C D k d s₁ E' hCL hd' hXD hDL hDC ok₁ kl hL acc
    rw [opqs, List.getElem?_map] at hd'
    cases hqk : qs[k]? with
    | none => rw [hqk] at hd'; cases hd'
    | some q =>
      rw [hqk] at hd'; cases hd'
      have hqm : q ∈ qs := List.mem_of_getElem? hqk
      have own := i.own q (hq q hqm)
      obtain ⟨vs, n, e, rl⟩ := own.2
      have hne : q.1 ≠ env.locals := fun z => F.xp q.1 (F.psX _ own.1) (.inl z)
      have e₁ := kl.get _ _ hne e
      have hl := rl.length
      simp only [Array.length_toList] at hl
      have htk : keptQ (qs.take (k + 1)) = keptQ (qs.take k) ++ (if !q.2.isEmpty then [q] else []) := by
        unfold keptQ
        rw [List.take_add_one, hqk, List.filter_append]
        cases hz : q.2.isEmpty <;> simp [hz]
      refine wpAny_bind (isTrue_plain (wpAny_mono (ev_name (X := XD X D) (pos := p3) (d := opq q.1) (by simp) hd hc s₁ _ ok₁) ?_ fun _ _ e => e))
      rintro v s₂ ⟨k₂, r₂⟩
      cases rp_opq r₂
      have e₂ := keeps_grow k₂ _ _ e₁
      refine wpAny_truthy_list ⟨_, e₂, rfl, _, rfl⟩ (by have := hqlen q hqm; omega) ?_
      have kt : Keeps s₂ { s₂ with toks := s₂.toks + 1 + 1 } := keeps_tok _ _
      have kk := keeps_trans k₂ kt
      have hemp : vs.isEmpty = q.2.isEmpty := by
        rw [Bool.eq_iff_iff, Array.isEmpty_iff_size_eq_zero, List.isEmpty_iff_length_eq_zero, hl]
      rw [hemp]
      have acc₂ : AccL X (opqs (keptQ (qs.take k))) D s₂.heap := accL_F acc (calm_grow (keeps_grow k₂)) fun o e => keeps_grow k₂ _ _ e
      cases hz : q.2.isEmpty with
      | true =>
        rw [hz] at htk
        obtain ⟨ys, m, eD, _⟩ := id acc₂
        refine wpAny_pure ⟨_, KL.of kk, Mv.of (keeps_refl _), ⟨_, eD⟩, ?_⟩
        rw [htk]
        simpa [opqs] using acc₂
      | false =>
        rw [hz] at htk
        simp only [Bool.not_false, if_true]
        refine wpAny_bind (wpAny_mono (ev_name (X := XD X D) (pos := p2) (d := opq q.1) (by simp) hd hc { s₂ with toks := s₂.toks + 1 + 1 } _ (ok₁.keeps kk)) ?_ fun _ _ e => e)
        rintro v s₃ ⟨k₃, r₃⟩
        refine wpAny_bind (accL_push (accL_F acc₂ (calm_grow (keeps_grow k₃)) fun o e => keeps_grow k₃ _ _ e) ?_ r₃ fun s₄ mv hD acc₄ => wpAny_pure ⟨s₃, KL.of (keeps_trans kk k₃), mv, hD, ?_⟩)
        · have : (keptQ (qs.take k)).length ≤ (qs.take k).length := List.length_filter_le ..
          simp only [opqs, List.length_map]
          have h2 : (qs.take k).length ≤ qs.length := by simp; omega
          omega
        · rw [htk]
          simpa [opqs] using acc₄
  · intro D C s' kl hD hC hDC hn acc
    simp only [opqs, List.length_map, List.take_length] at acc
    exact hRR D C s' kl hD hC hDC hn (accL_rp acc (i.ok.xi.notnone hD))
theorem ss_filter {x y : Str} {p1 p2 p3 pi py pos spos : Pos} {scope : Scope} {qs : List (Addr × List PyData)} (F : FO hT X env ps s₀) (hq : ∀ q ∈ qs, q ∈ ow) (hlen : qs.length ≤ 1000) (hqlen : ∀ q ∈ qs, q.2.length ≤ 1000)
    (K : CmpG prog w hT A env bs (.Name x p1) scope [] [] (opqs qs) (fun d => [(x, d)])) (hsrc : SR prog w hT A X env bs (.Name y pi) (opqs qs))
    (hsw : swapsWith (.ListComp (.Name x p2) [⟨.Name x p1, .Name y pi, [.Name x p3], 0⟩] scope pos) (some (.Name y py)) spos.line env = pure true) (hst : StoreAt (PvE env) env y)
    (hs : ∀ z, foldedSetIterable (.Name y pi) env z = pure z := by intro _; rfl) (hd : (x == ("__debug__" : Str)) = false := by decide) (hc : (x == ("__classdict__" : Str)) = false := by decide) :
    SS prog w hT A X env ps s₀ bs ow (.Assign [.Name y py] (.ListComp (.Name x p2) [⟨.Name x p1, .Name y pi, [.Name x p3], 0⟩] scope pos) spos) false ((y, .list (opqs (keptQ qs))) :: bs) ow := by
  intro s E i
  rw [exec_Assign_Name_used _ _ _ _ hsw]
  refine wpAny_bind (wpAny_standAt (wpAny_bind ?_))
  show wpAny _ A (do let _ ← comprehension (.ListComp (.Name x p2) [⟨.Name x p1, .Name y pi, [.Name x p3], 0⟩] scope pos) scope env _ (newList []) false (eval (.Name y pi) env) (some (assign (.Name y py) env))) _ _ s
  refine wpAny_bind (wpAny_mono (wpAny_comprehension_free (use := some (assign (.Name y py) env)) (Q := fun _ s' => MvF env ps s s' ∧ Flow.next = flow false ∧ FI hT X env ps s₀ ((y, .list (opqs (keptQ qs))) :: bs) ow s') rfl hs K.clos K.kind K.names
    (filter_core (RR := fun acc C => compPost (model prog w) A E (some (assign (.Name y py) env)) (fun _ s' => MvF env ps s s' ∧ Flow.next = flow false ∧ FI hT X env ps s₀ ((y, .list (opqs (keptQ qs))) :: bs) ow s') acc C) F i hq hlen hqlen K hsrc hd hc ?_)) (fun _ s' hq => wpAny_pure (wpAny_pure hq)) fun _ _ e => e)
  intro D C s' kl hD hC hDC ⟨m, hn⟩ r
  refine store_acc (Q := fun _ s' => MvF env ps s s' ∧ Flow.next = flow false ∧ FI hT X env ps s₀ ((y, .list (opqs (keptQ qs))) :: bs) ow s') i.ok hst kl hC hn r fun s'' sc mv => ?_
  exact ⟨mv.more fun a z => .inl z, rfl, i.stored F sc mv (calm_pv i.ok.sc mv)⟩
end Mine
end
section
open PySem PySem.W PyProof.Rows
namespace Mine
variable {M : Model} {prog : Program} {w : World} {hT : Heap} {A : Around} {X : Addr → Prop} {env : Env} {bs : List (Str × PyData)} {s : Shared} {E : Value → Shared → Prop}
/-- all of h₀ but S is kept, the frames fr but for their slots -/
noncomputable def KX (S : Addr → Prop) (fr : List Addr) (h₀ h : Heap) : Prop := ∀ b o, ¬ S b → h₀.get? b = some o → ∃ sl, h.get? b = some { o with slots := sl } ∧ (b ∉ fr → sl = o.slots)
/-- an exception on its way: its newest entry is at T, in flight at x -/
noncomputable def TbAt (c : Value) (h₀ h : Heap) (e : Addr) (x : Value) : Prop :=
  h₀.get? e = none ∧ ∃ oe vs T oT ts, h.get? e = some oe ∧ oe.cls = c ∧ oe.data = .fields vs ∧ vs[1]? = some (.ref T) ∧ T ≠ e ∧ h₀.get? T = none ∧ h.get? T = some oT ∧ oT.data = .fields ts ∧ ts[3]? = some x
theorem KX.upd {S : Addr → Prop} {fr : List Addr} {h₀ h h' : Heap} (k : KX S fr h₀ h) {e : Addr} (he : h₀.get? e = none) (hs : ∀ b, b ≠ e → h'.get? b = h.get? b) : KX S fr h₀ h' := fun b o nS e' => by
  obtain ⟨sl, q, r⟩ := k b o nS e'
  exact ⟨sl, (hs b fun z => by subst z; rw [he] at e'; cases e').trans q, r⟩
theorem frames_keep {h h' base : Heap} {l : List Env} {e : Addr} {oe : Obj} {vs : Array Value} (hl : h.FunFrames base l) (he : h.get? e = some oe) (hd : oe.data = .fields vs) (hs : ∀ b, b ≠ e → h'.get? b = h.get? b) : h'.FunFrames base l :=
  hl.of_keeps fun b o hb hnf => ⟨o, (hs b fun z => by subst z; rw [he] at hb; cases hb; exact hnf _ hd).trans hb, rfl⟩
/-- setFlight of an exception on its way -/
theorem flight_set {S : Addr → Prop} {fr : List Addr} {l : List Env} {h₀ : Heap} {c : Value} {e : Addr} {x : Value} {f : Option Addr} {Q : Unit → Shared → Prop} (k : KX S fr h₀ s.heap) (tb : TbAt c h₀ s.heap e x) (hl : s.heap.FunFrames hT l)
    (h : ∀ h', KX S fr h₀ h' → TbAt c h₀ h' e (f.elim .none fun a => rawInt a) → h'.FunFrames hT l → Q () { s with heap := h' }) : wpAny M A (setFlight (.ref e) f) Q E s := by
  obtain ⟨hen, oe, vs, T, oT, ts, he, hc, hd, h1, hTe, hTn, hT', hdT, h3⟩ := tb
  have hsz : 3 < ts.size := (Array.getElem?_eq_some_iff.mp h3).1
  unfold setFlight
  refine wpAny_bind (wpAny_field he hd h1 ?_)
  rw [if_pos (show (Value.ref T != Value.none) = true from by simp)]
  have other : ∀ b, b ≠ T → (s.heap.update T (Obj.mapFields (·.setIfInBounds 3 (f.elim Value.none fun a => rawInt a)))).get? b = s.heap.get? b := fun b hb => Heap.get?_update_other _ _ (Ne.symm hb)
  refine wpAny_setField hT' hdT hsz (h _ (k.upd hTn other) ?_ (frames_keep hl hT' hdT other))
  have hd₃ := Obj.data_mapFields hdT (·.setIfInBounds 3 (f.elim Value.none fun a => rawInt a))
  exact ⟨hen, oe, vs, T, _, _, (other e (Ne.symm hTe)).trans he, hc, hd, h1, hTe, hTn, Heap.get?_update_self _ hT' (Obj.isFreed_of_fields hd₃), hd₃, by simp [hsz]⟩
/-- a new entry -/
theorem entry_new {S : Addr → Prop} {fr : List Addr} {outer : List Env} {h₀ : Heap} {c head : Value} {e L : Addr} {oe : Obj} {vs : Array Value} {hadNext : Bool} {Q : Unit → Shared → Prop} (k : KX S fr h₀ s.heap)
    (hfr : A.frames = some (env :: outer)) (hl : s.heap.FunFrames hT (env :: outer)) (hf : env.frame = some L) (hin : ∀ a ∈ (env :: outer).filterMap (·.frame), a ∈ fr ∨ h₀.get? a = none) (hsz₀ : ∀ a, s.heap.objs.size ≤ a → h₀.get? a = none)
    (hen : h₀.get? e = none) (he : s.heap.get? e = some oe) (hc : oe.cls = c) (hd : oe.data = .fields vs) (hsz : 1 < vs.size)
    (h : ∀ h', KX S fr h₀ h' → TbAt c h₀ h' e (rawInt L) → h'.FunFrames hT (env :: outer) → Q () { s with heap := h' }) :
    wpAny M A (do let a ← frameOf env; let pl ← entryPlaceOf L hadNext; let b ← EntryCells.newEntry head a .none (rawInt L) .none pl; setField (.ref e) 1 b) Q E s := by
  have hene : e ∉ (env :: outer).filterMap (·.frame) := fun hm => by
    obtain ⟨_, o, ho, hnf⟩ := hl.mem hm
    rw [he] at ho; cases ho; exact hnf vs hd
  refine wpAny_bind (wpAny_frameOf_fun hfr hl hf fun h₁ hs₁ => ?_)
  refine wpAny_bind (wpAny_entryPlaceOf fun pl hpl => ?_)
  unfold EntryCells.newEntry newFields
  refine wpAny_bind (wpAny_newObj_type ?_ (hpl.sizeOk5 _ _ _ _ _))
  have he₁ : h₁.get? e = some oe := (hs₁.2.1 e hene).trans he
  let oT : Obj := { cls := .type "traceback", dict := none, data := .fields ([head, .ref L, .none, rawInt L, .none] ++ (if pl.isEmpty then List.replicate 6 Value.none else pl)).toArray }
  have he₂ := Heap.get?_push_of_some (h := h₁) oT he₁
  have hTe : h₁.objs.size ≠ e := Nat.ne_of_gt (Heap.lt_size he₁)
  have hd₃ := Obj.data_mapFields hd (·.setIfInBounds 1 (Value.ref h₁.objs.size))
  have k₁ : KX S fr h₀ h₁ := fun b o nS e' => by
    obtain ⟨sl, q, r⟩ := k b o nS e'
    by_cases hm : b ∈ (env :: outer).filterMap (·.frame)
    · obtain ⟨sl', q'⟩ := hs₁.2.2 b _ q
      refine ⟨sl', q', fun nf => ?_⟩
      rcases hin b hm with z | z
      · exact absurd z nf
      · rw [z] at e'; cases e'
    · exact ⟨sl, (hs₁.2.1 b hm).trans q, r⟩
  have hl₁ := hl.of_slotsOnly hs₁
  have k₂ : KX S fr h₀ (h₁.push oT) := fun b o nS e' => let ⟨sl, q, r⟩ := k₁ b o nS e'; ⟨sl, Heap.get?_push_of_some _ q, r⟩
  have hl₂ : (h₁.push oT).FunFrames hT (env :: outer) := hl₁.of_keeps fun b o hb _ => ⟨o, Heap.get?_push_of_some _ hb, rfl⟩
  have hTn : h₀.get? h₁.objs.size = none := hsz₀ _ (by rw [hs₁.1]; exact Nat.le_refl _)
  have other : ∀ b, b ≠ e → ((h₁.push oT).update e (Obj.mapFields (·.setIfInBounds 1 (Value.ref h₁.objs.size)))).get? b = (h₁.push oT).get? b := fun b hb => Heap.get?_update_other _ _ (Ne.symm hb)
  refine wpAny_setField he₂ hd hsz (h _ (k₂.upd hen other) ?_ (frames_keep hl₂ he₂ hd other))
  refine ⟨hen, _, _, h₁.objs.size, oT, _, Heap.get?_update_self _ he₂ (Obj.isFreed_of_fields hd₃), (Obj.cls_mapFields ..).trans hc, hd₃, by simp [hsz], hTe, hTn, (other _ hTe).trans (Heap.get?_push_size _ rfl), rfl, ?_⟩
  simp
theorem note_first {S : Addr → Prop} {fr : List Addr} {outer : List Env} {h₀ : Heap} {c : Value} {e L : Addr} {oe : Obj} {vs : Array Value} {Q : Unit → Shared → Prop} (k : KX S fr h₀ s.heap)
    (hfr : A.frames = some (env :: outer)) (hl : s.heap.FunFrames hT (env :: outer)) (hf : env.frame = some L) (hin : ∀ a ∈ (env :: outer).filterMap (·.frame), a ∈ fr ∨ h₀.get? a = none) (hsz₀ : ∀ a, s.heap.objs.size ≤ a → h₀.get? a = none)
    (hen : h₀.get? e = none) (he : s.heap.get? e = some oe) (hc : oe.cls = c) (hd : oe.data = .fields vs) (h1 : vs[1]? = some .none)
    (h : ∀ h', KX S fr h₀ h' → TbAt c h₀ h' e (rawInt L) → h'.FunFrames hT (env :: outer) → Q () { s with heap := h' }) : wpAny M A (noteFrame (.ref e) env) Q E s := by
  unfold noteFrame
  simp only [hf]
  refine wpAny_bind (wpAny_field he hd h1 ?_)
  rw [if_neg (by decide)]
  exact entry_new k hfr hl hf hin hsz₀ hen he hc hd (Array.getElem?_eq_some_iff.mp h1).1 h
theorem note_same {h₀ : Heap} {c : Value} {e L : Addr} {Q : Unit → Shared → Prop} (hf : env.frame = some L) (tb : TbAt c h₀ s.heap e (rawInt L)) (h : Q () s) : wpAny M A (noteFrame (.ref e) env) Q E s := by
  obtain ⟨hen, oe, vs, T, oT, ts, he, hc, hd, h1, hTe, hTn, hT', hdT, h3⟩ := tb
  unfold noteFrame
  simp only [hf]
  refine wpAny_bind (wpAny_field he hd h1 ?_)
  rw [if_pos (show (Value.ref T != Value.none) = true from by simp)]
  refine wpAny_bind (wpAny_field hT' hdT h3 ?_)
  rw [if_pos (show (rawInt L == rawInt L) = true from by simp)]
  exact wpAny_pure h
theorem note_next {S : Addr → Prop} {fr : List Addr} {outer : List Env} {h₀ : Heap} {c : Value} {e L : Addr} {Q : Unit → Shared → Prop} (k : KX S fr h₀ s.heap) (tb : TbAt c h₀ s.heap e .none)
    (hfr : A.frames = some (env :: outer)) (hl : s.heap.FunFrames hT (env :: outer)) (hf : env.frame = some L) (hin : ∀ a ∈ (env :: outer).filterMap (·.frame), a ∈ fr ∨ h₀.get? a = none) (hsz₀ : ∀ a, s.heap.objs.size ≤ a → h₀.get? a = none)
    (h : ∀ h', KX S fr h₀ h' → TbAt c h₀ h' e (rawInt L) → h'.FunFrames hT (env :: outer) → Q () { s with heap := h' }) : wpAny M A (noteFrame (.ref e) env) Q E s := by
  obtain ⟨hen, oe, vs, T, oT, ts, he, hc, hd, h1, hTe, hTn, hT', hdT, h3⟩ := tb
  unfold noteFrame
  simp only [hf]
  refine wpAny_bind (wpAny_field he hd h1 ?_)
  rw [if_pos (show (Value.ref T != Value.none) = true from by simp)]
  refine wpAny_bind (wpAny_field hT' hdT h3 ?_)
  rw [if_neg (show ¬ ((Value.none == rawInt L) = true) from by simp [rawInt])]
  have other : ∀ b, b ≠ T → (s.heap.update T (Obj.mapFields (·.setIfInBounds 3 Value.none))).get? b = s.heap.get? b := fun b hb => Heap.get?_update_other _ _ (Ne.symm hb)
  refine wpAny_bind (wpAny_setField hT' hdT (Array.getElem?_eq_some_iff.mp h3).1 ?_)
  exact entry_new (s := { s with heap := _ }) (k.upd hTn other) hfr (frames_keep hl hT' hdT other) hf hin (fun a q => hsz₀ a (by rw [← Heap.size_after_update s.heap T]; exact q)) hen ((other e (Ne.symm hTe)).trans he) hc hd (Array.getElem?_eq_some_iff.mp h1).1 h
/-- back in the frame -/
theorem came_back {S : Addr → Prop} {fr : List Addr} {l : List Env} {h₀ : Heap} {c : Value} {e : Addr} {x : Value} (k : KX S fr h₀ s.heap) (tb : TbAt c h₀ s.heap e x) (hl : s.heap.FunFrames hT l)
    (h : ∀ h', KX S fr h₀ h' → TbAt c h₀ h' e (env.frame.elim .none fun a => rawInt a) → h'.FunFrames hT l → E (.ref e) { s with heap := h' }) : cameBackBy M A env E (.ref e) s := by
  obtain ⟨hen, oe, vs, T, oT, ts, he, hc, hd, h1, hTe, hTn, hT', hdT, h3⟩ := id tb
  unfold cameBackBy
  refine wpAny_bind (wpAny_field he hd h1 ?_)
  rw [if_neg (show ¬ ((Value.ref T == Value.none) = true) from by simp)]
  exact flight_set k tb hl h
/-- an exception made in a loop of the frame leaves it -/
theorem raise_out {S : Addr → Prop} {fr : List Addr} {outer : List Env} {h₀ : Heap} {e L : Addr} {oe : Obj} {vs : Array Value} {R : Result → Shared → Prop} (k : KX S fr h₀ s.heap)
    (hfr : A.frames = some (env :: outer)) (hl : s.heap.FunFrames hT (env :: outer)) (hf : env.frame = some L) (hin : ∀ a ∈ (env :: outer).filterMap (·.frame), a ∈ fr ∨ h₀.get? a = none) (hsz₀ : ∀ a, s.heap.objs.size ≤ a → h₀.get? a = none)
    (hen : h₀.get? e = none) (he : s.heap.get? e = some oe) (hd : oe.data = .fields vs) (h1 : vs[1]? = some .none)
    (h : ∀ h', KX S fr h₀ h' → TbAt oe.cls h₀ h' e .none → h'.FunFrames hT (env :: outer) → R (.error (.ref e)) { s with heap := h' }) :
    notedBy M A env (fun e s' => cameBackBy M A env (fun e s' => wpAny M A (leaving env e) (fun _ s'' => R (.error e) s'') (fun e' s'' => R (.error e') s'') s') e s') (.ref e) s := by
  unfold notedBy
  refine note_first k hfr hl hf hin hsz₀ hen he rfl hd h1 fun h₁ k₁ tb₁ hl₁ => ?_
  refine came_back (s := { s with heap := h₁ }) k₁ tb₁ hl₁ fun h₂ k₂ tb₂ hl₂ => ?_
  rw [hf] at tb₂
  unfold leaving
  refine wpAny_bind (note_same (s := { s with heap := h₂ }) hf tb₂ ?_)
  exact flight_set (s := { s with heap := h₂ }) k₂ tb₂ hl₂ fun h₃ k₃ tb₃ hl₃ => h h₃ k₃ tb₃ hl₃
end Mine
end
section
open PySem PySem.W PyProof.Rows
namespace Mine
variable {prog : Program} {w : World} {hT : Heap} {A : Around} {X : Addr → Prop} {env : Env} {bs : List (Str × PyData)} {ps : Addr → Prop} {s₀ : Shared} {ow : Own}
/-- into a def's body, whatever comes back -/
theorem fn_enter {a : Addr} {o : Obj} {fd : FuncData} {body : List PySem.Stmt} {ps : List Str} {ds : List PyData} {k : Nat} {s : Shared} {R : Result → Shared → Prop} {vals : List Value} (ho : hT.get? a = some o) (hdata : o.data = .func fd) (hlim : hT.NoLimit) (hcd : hT.CodeRec fd.code fd.qualname)
    (hbody : fd.body = .stmts body) (hclo : fd.closure = []) (hglob : fd.globals = mainGlobals) (hblt : fd.builtins = builtinsNs)
    (hbind : BindsTo s fd ⟨vals, []⟩ (ps.zip vals))
    (hkind : ∀ n, ∀ x ∈ ps, fd.scope.names.lookup x = some .local ∨ (fd.scope.names.lookup x = some .cell ∧ ((cellsFrom n fd.scope.names []).lookup x).isSome = true)) (hlen : ds.length = ps.length)
    (hA : ARoom (k + 1) A) (top : Grow hT s.heap) (xi : XI X s.heap) (hr : RpL X s.heap vals ds)
    (main : ∀ s₁, ARoom k (A.deeper (callEnvC fd s.heap.objs.size a)) → FC hT X s (callEnvC fd s.heap.objs.size a) → Sc X (callEnvC fd s.heap.objs.size a) (ps.zip ds).reverse s₁.heap → Keeps s s₁ →
      wpAny (model prog w) (A.deeper (callEnvC fd s.heap.objs.size a)) (execs body (callEnvC fd s.heap.objs.size a)) (fun f s' => R (.ok (.ret (match f with | .ret v => v | _ => .none))) s')
        (fun e s' => wpAny (model prog w) (A.deeper (callEnvC fd s.heap.objs.size a)) (leaving (callEnvC fd s.heap.objs.size a) e) (fun _ s'' => R (.error e) s'') (fun e' s'' => R (.error e') s'') s') s₁)
    (hco : fd.scope.isCoroutine = false := by rfl) (hgen : fd.scope.isGenerator = false := by rfl) (hk : fd.scope.kind = .function := by rfl) : codeAny (model prog w) A (.call (.ref a) ⟨vals, []⟩) R s := by
  have hlv := hr.length
  refine call_cellsB (o := o) (fd := fd) (body := body) (binds := ps.zip vals) (by have := hA.2.1; show A.depth < 1000; omega) (top _ _ ho) hdata (hlim.keeps top) (hcd.keeps top) hbody hbind hclo ?_ ?_ hco hgen hk
  · intro x hx
    exact hkind _ x.1 (List.of_mem_zip hx).1
  · intro s₁ C
    have F := fc_of (hT := hT) (X := X) hk hglob hblt top xi C
    have kp : Keeps s s₁ := let ⟨h', tk, e, g⟩ := C.done; ⟨h', tk, e, g⟩
    have g := keeps_grow kp
    refine main s₁ (hA.deeper _) F ?_ kp
    refine ⟨_, _, C.toInCall.ns, C.cell, fun x e hx => ?_⟩
    obtain ⟨v, hv, rv⟩ := zip_look ps hr x e hx
    have hm : x ∈ ps := by
      have := PySem.mem_of_lookup hv
      rw [List.mem_reverse] at this
      exact (List.of_mem_zip this).1
    refine ⟨v, rv.grow g, ?_⟩
    rcases hkind (s.heap.objs.size + 1) x hm with q | ⟨q, q'⟩
    · refine .inl ⟨q, ?_⟩
      rw [bindL_get _ _ _ q, hv]; rfl
    · obtain ⟨c, hc⟩ := Option.isSome_iff_exists.mp q'
      refine .inr ⟨.inl q, ⟨c, hc⟩, ?_⟩
      rw [bindC_get _ _ _ (by show fd.scope.names.lookup x ≠ _; rw [q]; intro z; cases z), hv]; rfl
theorem frames_move {h h' base : Heap} : ∀ {l : List Env}, h.FunFrames base l → (∀ L ∈ l.filterMap (·.frame), ∀ o, h.get? L = some o → ∃ o', h'.get? L = some o' ∧ o'.data = o.data) → h'.FunFrames base l
  | [], _, _ => trivial
  | env :: rest, ⟨hk, ⟨L, o, hf, hn, ho, hd⟩, hr⟩, k => by
    have hm : L ∈ (env :: rest).filterMap (·.frame) := by rw [List.filterMap_cons, hf]; exact .head _
    obtain ⟨o', e', d'⟩ := k L hm o ho
    refine ⟨hk, ⟨L, o', hf, hn, e', fun vs => d' ▸ hd vs⟩, frames_move hr fun L' hL' => k L' ?_⟩
    rw [List.filterMap_cons, hf]; exact .tail _ hL'
/-- one of the own lists loses its head -/
theorem ss_perm {st : PySem.Stmt} {br : Bool} {bs' : Bs} {ow₁ ow₂ ow' : Own} (h1 : ∀ p ∈ ow₁, p ∈ ow) (h2 : ∀ p ∈ ow', p ∈ ow₂) (h : SS prog w hT A X env ps s₀ bs ow₁ st br bs' ow₂) : SS prog w hT A X env ps s₀ bs ow st br bs' ow' := fun s E i =>
  wpAny_mono (h s E (i.perm h1)) (fun _ _ q => ⟨q.1, q.2.1, q.2.2.perm h2⟩) fun _ _ e => e
end Mine
end
section
open PySem PySem.W PyProof.Rows
set_option maxRecDepth 100000
set_option maxHeartbeats 4000000
namespace Mine
variable {w : World} {hT : Heap} {A : Around} {X : Addr → Prop} {env : Env} {bs : List (Str × PyData)}
noncomputable def heq (a b : Str) : Bool := PyData.eqv (.str a) (.str b)
noncomputable def inTail (c : Str) (l : List Str) : Bool := l.tail.any fun y => heq y c
noncomputable def badF (ls : List (List Str)) (c : Str) : Bool := ls.any (inTail c)
noncomputable def hd1 (l : List Str) : Str := l.head?.getD ⟨#[]⟩
noncomputable def candF (ls : List (List Str)) : Option Str := (ls.map hd1).find? fun c => !badF ls c
noncomputable def dropF (c : Str) (l : List Str) : List Str := if heq (hd1 l) c then l.tail else l
noncomputable def mergeF : Nat → List (List Str) → List Str → Option (Option (List Str))
  | 0, _, _ => none
  | n + 1, ls, res => let ks := ls.filter fun l => !l.isEmpty
    if ks.isEmpty then some (some res) else match candF ks with
      | none => some none
      | some c => mergeF n (ks.map (dropF c)) (res ++ [c])
noncomputable abbrev QL := List (Addr × List Str)
noncomputable def QS (qs : QL) : List (Addr × List PyData) := qs.map fun q => (q.1, q.2.map .str)
noncomputable def keptL (qs : QL) : QL := qs.filter fun q => !q.2.isEmpty
theorem kept_QS (qs : QL) : keptQ (QS qs) = QS (keptL qs) := by
  unfold keptQ QS keptL
  rw [List.filter_map]
  congr 1
  apply List.filter_congr
  intro q _
  simp
theorem kept_snd (qs : QL) : (keptL qs).map (·.2) = (qs.map (·.2)).filter fun l => !l.isEmpty := by
  unfold keptL
  rw [List.filter_map]; rfl
theorem tail_pick (l : List Str) (h : l.length ≤ 2) : pick (l.map .str) (some 1) none none = l.tail.map .str := by
  match l, h with
  | [], _ => rfl
  | [_], _ => rfl
  | [a, b], _ =>
    have e : sliceRange (sliceBounds (some 1) none none 2).1 (sliceBounds (some 1) none none 2).2.1 (sliceBounds (some 1) none none 2).2.2 = [1] := by decide +kernel
    show (sliceRange (sliceBounds (some 1) none none 2).1 (sliceBounds (some 1) none none 2).2.1 (sliceBounds (some 1) none none 2).2.2).filterMap _ = _
    rw [e]; rfl
theorem str_shaped (c : Str) (h : PyData.strOk c = true) : SeqAt.shaped (.str c) = true := by
  unfold SeqAt.shaped; simp [PyData.depth, PyData.canLay0, h]
theorem tail_shaped (l : List Str) (h : l.length ≤ 2) (hs : ∀ y ∈ l, PyData.strOk y = true) : SeqAt.shaped (.list (l.tail.map .str)) = true := by
  match l, h with
  | [], _ => unfold SeqAt.shaped; simp [PyData.depth, PyData.depthAll, PyData.canLay0, PyData.canLayAll0]
  | [_], _ => unfold SeqAt.shaped; simp [PyData.depth, PyData.depthAll, PyData.canLay0, PyData.canLayAll0]
  | [_, b], _ => unfold SeqAt.shaped; simp [PyData.depth, PyData.depthAll, PyData.canLay0, PyData.canLayAll0, hs b (by simp)]
theorem tail_any (l : List Str) (c : Str) : ((l.tail.map PyData.str).any fun y => PyData.eqv y (.str c)) = inTail c l := by
  rw [List.any_map]; rfl
theorem own_more {qs : QL} {Rr : Addr} {s s₂ : Shared} (hown : ∀ q ∈ qs, hT.get? q.1 = none ∧ (q.2.length ≤ 2 ∧ ∀ y ∈ q.2, PyData.strOk y = true) ∧ OwnL Xno s.heap q.1 (q.2.map .str)) (hnR : s.heap.get? Rr = none)
    (Fo : FO hT (XD (fun a => a ∈ qs.map (·.1)) Rr) env (fun a => a = Rr) s) (i : FI hT (XD (fun a => a ∈ qs.map (·.1)) Rr) env (fun a => a = Rr) s bs [(Rr, [])] s₂) :
    FO hT (XD (fun a => a ∈ qs.map (·.1)) Rr) env (fun a => a = Rr ∨ a ∈ qs.map (·.1)) s ∧ FI hT (XD (fun a => a ∈ qs.map (·.1)) Rr) env (fun a => a = Rr ∨ a ∈ qs.map (·.1)) s bs ((Rr, []) :: QS qs) s₂ := by
  refine ⟨{ kind := Fo.kind, top := Fo.top, priv := Fo.priv, glob := Fo.glob, blt := Fo.blt, apart := Fo.apart
            psT := fun a hq => hq.elim (Fo.psT a) fun z => by obtain ⟨q', hq', rfl⟩ := List.mem_map.mp z; exact (hown q' hq').1
            psX := fun a q => q.elim .inr .inl
            xp := Fo.xp }, i.mv.more fun a q => .inl q, i.ok, fun p hp => ?_⟩
  rcases List.mem_cons.mp hp with rfl | hp
  · exact ⟨.inl rfl, (i.own _ (.head _)).2⟩
  · obtain ⟨q, hq, rfl⟩ := List.mem_map.mp hp
    refine ⟨.inr (List.mem_map.mpr ⟨q, hq, rfl⟩), ?_⟩
    obtain ⟨vs, m, e, rl⟩ := (hown q hq).2.2
    have e' := i.mv.get q.1 _ (fun z => by rw [z, hnR] at e; cases e) e
    refine ⟨vs, m, e', ?_⟩
    obtain ⟨l, hl, hl'⟩ := strs_of rl
    show RpL _ _ vs.toList (q.2.map .str)
    rw [hl, ← hl', List.map_map]
    exact rp_strs l
/-- the state at the loop's head -/
noncomputable def Hd3 (hT : Heap) (env : Env) (qs₀ : QL) (Rr : Addr) (s : Shared) (n : Nat) (out : Option (List Str)) (s' : Shared) : Prop :=
  ∃ (qs : QL) (res : List Str), (∀ q ∈ qs, (q.2.length ≤ 2 ∧ ∀ y ∈ q.2, PyData.strOk y = true) ∧ q.1 ∈ qs₀.map (·.1)) ∧ (qs.map (·.1)).Nodup ∧ qs.length ≤ 10 ∧ res.length + n ≤ 100 ∧ mergeF n (qs.map (·.2)) res = some out ∧
    FI hT (XD (fun a => a ∈ qs₀.map (·.1)) Rr) env (fun a => a = Rr ∨ a ∈ qs₀.map (·.1)) s [(Str.ofString "sequences", .list (opqs (QS qs))), (Str.ofString "result", opq Rr)] ((Rr, res.map .str) :: QS qs) s'
theorem while3 {env : Env} {test : PySem.Expr} {body orelse : List PySem.Stmt} {R : Result → Shared → Prop} {A : Around} {qs : QL} {Rr : Addr} {s s₂ : Shared} {n : Nat} {out : Option (List Str)}
    (turn : ∀ n s₃, Hd3 hT env qs Rr s n out s₃ →
      wpAny (model PR w) A (isTrue test env (eval test env)) (fun b s₂ =>
        if b then wpAny (model PR w) A (execs body env) (fun f s₃ => match f with
            | .next | .cont => ∃ m, m < n ∧ Hd3 hT env qs Rr s m out s₃
            | .brk => R (.ok .next) s₃
            | .ret v => R (.ok (.ret v)) s₃) (notedBy (model PR w) A env fun e s' => R (.error e) s') s₂
        else wpAny (model PR w) A (execs orelse env) (fun f s₃ => R (.ok f) s₃) (notedBy (model PR w) A env fun e s' => R (.error e) s') s₂)
        (notedBy (model PR w) A env fun e s' => R (.error e) s') s₃)
    (h : Hd3 hT env qs Rr s n out s₂) : codeAny (model PR w) A (.whileLoop test body orelse env) R s₂ := codeAny_whileLoop (fun n' s' => Hd3 hT env qs Rr s n' out s') turn n h
theorem ev_none {A : Around} {k : Nat} {pos : Pos} : EV PR w hT A X env bs (.Constant .none k pos) .none := fun s _ _ => wpAny_Constant_none ⟨keeps_refl s, .none⟩
theorem candF_eq (ls : QL) : candF (ls.map (·.2)) = (ls.find? fun q => !badF (ls.map (·.2)) (hd1 q.2)).map fun q => hd1 q.2 := by
  unfold candF
  rw [List.map_map, List.find?_map]; rfl
theorem badF_eq (ls : QL) (c : Str) : badF (ls.map (·.2)) c = ls.any fun q => inTail c q.2 := by
  unfold badF
  rw [List.any_map]; rfl
theorem opqs_get (ls : QL) (j : Nat) (d : PyData) (h : (opqs (QS ls))[j]? = some d) : ∃ q, ls[j]? = some q ∧ d = opq q.1 := by
  unfold opqs QS at h
  rw [List.map_map, List.getElem?_map] at h
  cases hq : ls[j]? with
  | none => rw [hq] at h; cases h
  | some q => rw [hq] at h; cases h; exact ⟨q, rfl, rfl⟩
theorem opqs_len (ls : QL) : (opqs (QS ls)).length = ls.length := by simp [opqs, QS]
theorem weak_s2 {v : PyData} {c : PyData} {B : Bs} (x : Str) (d : PyData) (h : ((Str.ofString "candidate", c) :: (Str.ofString "s1", v) :: B).lookup x = some d) (hB : B.lookup (Str.ofString "s2") = none := by assumption) {u : PyData} : ((Str.ofString "s2", u) :: (Str.ofString "candidate", c) :: (Str.ofString "s1", v) :: B).lookup x = some d := by
  rw [List.lookup_cons]
  cases hb : x == Str.ofString "s2" with
  | false => exact h
  | true =>
    rw [beq_iff_eq.mp hb] at h
    have : B.lookup (Str.ofString "s2") = some d := h
    rw [hB] at this; cases this
theorem TR.use {prog : Program} {A : Around} {e : PySem.Expr} {b : Bool} {s : Shared} {E : Value → Shared → Prop} {Q : Bool → Shared → Prop} (ok : Ok hT X env bs s.heap) (h : TR prog w hT A X env bs e b) (hQ : ∀ s', Keeps s s' → Q b s') :
    wpAny (model prog w) A (isTrue e env (eval e env)) Q E s := wpAny_mono (h s E ok) (fun _ s' q => by rw [q.1]; exact hQ s' q.2) fun _ _ e => e
theorem op_is_none {A : Around} : Op2 PR w A X (compareOp .Is) .none .none (.bool true) := by
  intro s E x y _ _ h1 h2; cases h1; cases h2; exact is_none_none ⟨keeps_refl s, .bool _⟩
theorem op_is_str {A : Around} {c : Str} : Op2 PR w A X (compareOp .Is) (.str c) .none (.bool false) := by
  intro s E x y _ _ h1 h2; cases h1; cases h2; exact is_str_none ⟨keeps_refl s, .bool _⟩
theorem kx_of_mv {S : Addr → Prop} {fr : List Addr} {Rr : Addr} {s s' : Shared} (m : Mv (fun a => a = Rr ∨ S a) s s') (hn : s.heap.get? Rr = none) {h' : Heap} (g : Grow s'.heap h') : KX S fr s.heap h' := fun b o nS e =>
  ⟨o.slots, g _ _ (m.get b o (fun z => z.elim (fun z => by rw [z, hn] at e; cases e) nS) e), fun _ => rfl⟩
theorem c3_call (T : Tp w hT) {A : Around} {s : Shared} {R : Result → Shared → Prop} {P : Addr} {n : Nat} {vsP : Array Value} {nP : Nat} (qs : QL) (out : Option (List Str)) (outer : List Env) (hA : ARoom 1 A) (hfr : A.frames = some outer)
    (hfun : s.heap.FunFrames hT outer) (hns : ∀ a ∈ outer.filterMap (·.frame), ∃ m, s.heap.Ns a m) (top : Grow hT s.heap)
    (hP : s.heap.get? P = some { cls := .type "list", data := .seq vsP nP }) (hvs : vsP.toList = qs.map fun q => .ref q.1) (hPq : ∀ q ∈ qs, q.1 ≠ P) (hnd : (qs.map (·.1)).Nodup)
    (hown : ∀ q ∈ qs, hT.get? q.1 = none ∧ (q.2.length ≤ 2 ∧ ∀ y ∈ q.2, PyData.strOk y = true) ∧ OwnL Xno s.heap q.1 (q.2.map .str)) (hlen : qs.length ≤ 10) (hn : n ≤ 100) (hm : mergeF n (qs.map (·.2)) [] = some out)
    (hok : ∀ l v s', out = some l → Mv (fun a => a ∈ qs.map (·.1)) s s' → Rp Xno s'.heap v (.list (l.map .str)) → R (.ok (.ret v)) s')
    (herr : ∀ e s', out = none → (∃ h' tk, s' = { s with heap := h', toks := tk }) → KX (fun a => a ∈ qs.map (·.1)) (outer.filterMap (·.frame)) s.heap s'.heap → TbAt (.type "RuntimeError") s.heap s'.heap e .none → s'.heap.FunFrames hT outer → R (.error (.ref e)) s') :
    codeAny (model PR w) A (.call (.ref 75) ⟨[.ref P], []⟩) R s := by
  have hXi : XI (fun a => a ∈ qs.map (·.1)) s.heap := fun a ha => by
    obtain ⟨q, hq, rfl⟩ := List.mem_map.mp ha
    obtain ⟨vs, m, e, _⟩ := (hown q hq).2.2
    exact ⟨_, e⟩
  have hrefs : ∀ l : QL, RpL (fun a => a ∈ qs.map (·.1)) s.heap (l.map fun q => .ref q.1) (opqs (QS l)) := by
    intro l
    induction l with
    | nil => exact .nil
    | cons q l ih => exact .cons (.opq _) ih
  refine fn_enter (X := fun a => a ∈ qs.map (·.1)) (ps := [Str.ofString "sequences"]) (ds := [.list (opqs (QS qs))]) (T.k 75 _ rfl) rfl T.lim (codeRec_of T.k (by rfl)) rfl rfl rfl rfl (.of_eq rfl) ?_ rfl hA top hXi ?_ ?_
  · intro n x hx; simp at hx; subst hx; exact .inl rfl
  · refine .cons (.list hP (fun z => ?_) ?_) .nil
    · obtain ⟨q, hq, e⟩ := List.mem_map.mp z
      exact hPq q hq e
    · rw [hvs]; exact hrefs qs
  · intro s₁ hA' F hsc k
    have hh := hA'.1
    refine wpAny_execs_cons (own_new F (F.storeL rfl) hsc k fun Rr s₂ hXR hnR Fo i => ?_)
    obtain ⟨Fq, iq⟩ := own_more hown hnR Fo i
    clear i Fo hsc
    refine wpAny_execs_cons (wpAny_While (while3 (hT := hT) (qs := qs) (Rr := Rr) (s := s) (n := n) (out := out) ?_ ?_))
    · rintro n' s₃ ⟨ks, res, hks, hkn, hkl, hrn, hmm, i⟩
      refine isTrue_plain (wpAny_Constant_bool (wpAny_truthy_bool ?_))
      rw [if_pos rfl]
      -- the lists that are left
      refine wpAny_execs_cons (SS.use i (ss_filter (qs := QS ks) Fq (fun q hq => .tail _ hq) (by simpa [QS] using Nat.le_trans hkl (by decide)) ?_ ?_ (sr_list hh (ev_name rfl)) rfl (Fq.storeL rfl)) fun s₄ i₄ _ => ?_)
      · intro q hq
        obtain ⟨q', hq', rfl⟩ := List.mem_map.mp hq
        have := (hks q' hq').1.1
        simp only [List.length_map]; omega
      · refine { clos := rfl, kind := rfl, names := ?_, cells := fun n c h => (nomatch h), cap := fun C x d h => (nomatch h), asg := fun C Y hCL d hd => asg_local rfl rfl, weak := fun d hd x e h => (nomatch h), hTL := ?_ }
        · intro x hx; simp at hx; rcases hx with rfl | rfl <;> intro _ <;> rfl
        · cases z : hT.get? s.heap.objs.size with
          | none => exact z
          | some o => have := Heap.lt_size (top _ _ z); exact absurd this (Nat.lt_irrefl _)
      rw [kept_QS] at i₄
      have hkk : ∀ q ∈ keptL ks, q ∈ ks ∧ q.2 ≠ [] := fun q hq => by
        unfold keptL at hq
        have := List.mem_filter.mp hq
        exact ⟨this.1, fun z => by simp [z] at this⟩
      have i₄ := i₄.perm (ow' := (Rr, res.map .str) :: QS (keptL ks)) (fun p hp => by
        rcases List.mem_cons.mp hp with rfl | hp
        · exact .head _
        · obtain ⟨q, hq, rfl⟩ := List.mem_map.mp hp
          exact .tail _ (List.mem_map.mpr ⟨q, (hkk q hq).1, rfl⟩))
      obtain ⟨n', rfl⟩ : ∃ m, n' = m + 1 := by
        cases n' with
        | zero => cases hmm
        | succ m => exact ⟨m, rfl⟩
      unfold mergeF at hmm
      simp only [← kept_snd] at hmm
      generalize hls : keptL ks = ls at *
      -- none left?
      refine wpAny_execs_cons (wpAny_If (wpAny_isTrue_Not (isTrue_plain (EV.use i₄.ok (ev_name (d := .list (opqs (QS ls))) rfl) fun v s₅ k₅ r₅ => ?_))))
      have hne0 : ∃ vs : Array Value, ∃ a m, v = .ref a ∧ s₅.heap.get? a = some { cls := .type "list", data := .seq vs m } ∧ vs.size = ls.length := by
        cases r₅ with
        | @list a vs m _ e _ rl =>
          have := rl.length
          simp only [Array.length_toList, opqs_len] at this
          exact ⟨vs, a, m, rfl, e, this⟩
      obtain ⟨vs, a, m, rfl, e₅, hvl⟩ := hne0
      have hll : ls.length ≤ 10 := by
        rw [← hls]; exact Nat.le_trans (List.length_filter_le ..) hkl
      refine wpAny_truthy_list ⟨_, e₅, rfl, _, rfl⟩ (by omega) ?_
      have kt : Keeps s₅ { s₅ with toks := s₅.toks + 1 + 1 } := keeps_tok _ _
      have i₅ := (i₄.keeps k₅).keeps kt
      have hemp : vs.isEmpty = ls.isEmpty := by
        rw [Bool.eq_iff_iff, Array.isEmpty_iff_size_eq_zero, List.isEmpty_iff_length_eq_zero, hvl]
      rw [hemp, Bool.not_not]
      have hemp2 : (ls.map (·.2)).isEmpty = ls.isEmpty := by simp
      rw [hemp2] at hmm
      cases hz : ls.isEmpty with
      | true =>
        rw [if_pos rfl]
        rw [hz, if_pos rfl] at hmm
        cases hmm
        refine wpAny_execs_cons (wpAny_Return_some (EV.use i₅.ok (ev_name (d := opq Rr) rfl) fun v s₆ k₆ r₆ => ?_))
        cases rp_opq r₆
        have i₆ := i₅.keeps k₆
        refine hok res (.ref Rr) s₆ rfl ?_ ?_
        · obtain ⟨h', t', rfl, g⟩ := i₆.mv
          exact ⟨h', t', rfl, fun b o nb e => g b o (fun z => z.elim (fun z => by rw [z, hnR] at e; cases e) nb) e⟩
        · obtain ⟨vs, m, e, rl⟩ := (i₆.own _ (.head _)).2
          exact .list e (fun z => z) (rl.less fun _ z => z.elim)
      | false =>
        rw [if_neg (by decide)]
        rw [hz, if_neg (by decide)] at hmm
        refine wpAny_execs_nil ?_
        have hksl : ∀ q ∈ ls, (q.2.length ≤ 2 ∧ ∀ y ∈ q.2, PyData.strOk y = true) ∧ q.1 ∈ qs.map (·.1) := fun q hq => hks q (hkk q hq).1
        have hpos : 0 < ls.length := by
          cases ls with
          | nil => cases hz
          | cons => simp
        have hrows : ∀ q ∈ ls, ∃ t, q.2 = hd1 q.2 :: t := fun q hq => by
          have := (hkk q hq).2
          cases hq2 : q.2 with
          | nil => exact absurd hq2 this
          | cons y t => exact ⟨t, rfl⟩
        have i₅ := i₅.weak (bs' := [(Str.ofString "sequences", .list (opqs (QS ls))), (Str.ofString "result", opq Rr)]) (weak_of (by intro p hp; simp at hp; rcases hp with rfl | rfl <;> rfl))
        -- the candidate
        have hstopN : (ls.findIdx? fun q => !badF (ls.map (·.2)) (hd1 q.2)) = none → candF (ls.map (·.2)) = none := fun h => by
          rw [candF_eq, (find_none _ ls h).1]; rfl
        have hstopS : ∀ k, (ls.findIdx? fun q => !badF (ls.map (·.2)) (hd1 q.2)) = some k → ∃ q, ls[k]? = some q ∧ badF (ls.map (·.2)) (hd1 q.2) = false ∧ candF (ls.map (·.2)) = some (hd1 q.2) ∧ ∀ j y, j < k → ls[j]? = some y → badF (ls.map (·.2)) (hd1 y.2) = true := fun k h => by
          obtain ⟨q, h1, h2, h3, h4⟩ := find_some _ ls k h
          refine ⟨q, h1, by simpa using h2, ?_, fun j y hj hy => by simpa using h4 j y hj hy⟩
          rw [candF_eq, h3]; rfl
        have hmem : ∀ {j : Nat} {q : Addr × List Str}, ls[j]? = some q → (q.1, q.2.map PyData.str) ∈ (Rr, res.map .str) :: QS ls := fun hj => .tail _ (List.mem_map.mpr ⟨_, List.mem_of_getElem? hj, rfl⟩)
        have hhd : ∀ {j : Nat} {q : Addr × List Str}, ls[j]? = some q → (q.2.map PyData.str)[(0 : Int).toNat]? = some (.str (hd1 q.2)) := fun {j q} hj => by
          obtain ⟨t, ht⟩ := hrows q (List.mem_of_getElem? hj)
          rw [ht]; rfl
        refine wpAny_execs_cons (SS.use i₅ (ss_for (ds := opqs (QS ls)) (bs' := [(Str.ofString "candidate", match candF (ls.map (·.2)) with | some c => .str c | none => .none), (Str.ofString "sequences", .list (opqs (QS ls))), (Str.ofString "result", opq Rr)]) (ow' := (Rr, res.map .str) :: QS ls) (br := false)
          (fun j => if j = 0 then [(Str.ofString "sequences", .list (opqs (QS ls))), (Str.ofString "result", opq Rr)] else [(Str.ofString "candidate", .none), (Str.ofString "sequences", .list (opqs (QS ls))), (Str.ofString "result", opq Rr)])
          (fun j => (Str.ofString "s1", opq (ls[j]?.getD (0, [])).1) :: if j = 0 then [(Str.ofString "sequences", .list (opqs (QS ls))), (Str.ofString "result", opq Rr)] else [(Str.ofString "candidate", .none), (Str.ofString "sequences", .list (opqs (QS ls))), (Str.ofString "result", opq Rr)])
          (fun _ => (Rr, res.map .str) :: QS ls) (ls.findIdx? fun q => !badF (ls.map (·.2)) (hd1 q.2)) Fq (SR.two (sr_list hh (ev_name rfl))) (fun x d h => h) rfl ?_ ?_ ?_ ?_ ?_) fun s₆ i₆ _ => ?_)
        · intro j d hd
          obtain ⟨q, hj, rfl⟩ := opqs_get ls j d hd
          rw [hj]
          exact asgF_name Fq.kind (Fq.storeL rfl)
        · intro k hk
          rw [opqs_len]
          exact (List.findIdx?_eq_some_iff_getElem.mp hk).1
        · intro j d hd hlt
          obtain ⟨q, hj, rfl⟩ := opqs_get ls j d hd
          have hbad : badF (ls.map (·.2)) (hd1 q.2) = true := by
            cases hs : ls.findIdx? (fun q => !badF (ls.map (·.2)) (hd1 q.2)) with
            | none => simpa using (find_none _ ls hs).2 j q hj
            | some k => obtain ⟨_, _, _, _, h4⟩ := hstopS k hs; exact h4 j q (hlt k hs) hj
          rw [if_neg (Nat.succ_ne_zero j)]
          have hq := List.mem_of_getElem? hj
          have hB : ∀ p ∈ [(Str.ofString "sequences", PyData.list (opqs (QS ls))), (Str.ofString "result", opq Rr)], (if j = 0 then [(Str.ofString "sequences", PyData.list (opqs (QS ls))), (Str.ofString "result", opq Rr)] else [(Str.ofString "candidate", .none), (Str.ofString "sequences", .list (opqs (QS ls))), (Str.ofString "result", opq Rr)]).lookup p.1 = some p.2 := by
            intro p hp
            by_cases h0 : j = 0
            · rw [if_pos h0]; simp at hp; rcases hp with rfl | rfl <;> rfl
            · rw [if_neg h0]; simp at hp; rcases hp with rfl | rfl <;> rfl
          have hB2 : (if j = 0 then [(Str.ofString "sequences", PyData.list (opqs (QS ls))), (Str.ofString "result", opq Rr)] else [(Str.ofString "candidate", .none), (Str.ofString "sequences", .list (opqs (QS ls))), (Str.ofString "result", opq Rr)]).lookup (Str.ofString "s2") = none := by
            by_cases h0 : j = 0
            · rw [if_pos h0]; rfl
            · rw [if_neg h0]; rfl
          generalize (if j = 0 then [(Str.ofString "sequences", PyData.list (opqs (QS ls))), (Str.ofString "result", opq Rr)] else [(Str.ofString "candidate", .none), (Str.ofString "sequences", .list (opqs (QS ls))), (Str.ofString "result", opq Rr)]) = B at hB hB2 ⊢
          have hBs := hB _ (.head _)
          have hBr := hB _ (.tail _ (.head _))
          simp only [hj, Option.getD_some]
          refine sb_cons (ss_assign_seen (x := Str.ofString "s1") (a := q.1) (ds := q.2.map .str) (c := hd1 q.2) Fq rfl (hmem hj) (fun h => ev_item (ev_name rfl) ev_int (by decide) (by decide) (hhd hj)) (Fq.storeL rfl)) ?_
          have hcOk : PyData.strOk (hd1 q.2) = true := by
            obtain ⟨t, ht⟩ := hrows q hq
            exact (hksl q hq).1.2 _ (by rw [ht]; simp [hd1])
          refine sb_last (ss_for (ds := opqs (QS ls)) (fun _ => (Str.ofString "candidate", .str (hd1 q.2)) :: (Str.ofString "s1", opq q.1) :: B) (fun k => (Str.ofString "s2", opq (ls[k]?.getD (0, [])).1) :: (Str.ofString "candidate", .str (hd1 q.2)) :: (Str.ofString "s1", opq q.1) :: B) (fun _ => (Rr, res.map .str) :: QS ls)
            (ls.findIdx? fun r => inTail (hd1 q.2) r.2) Fq (SR.two (sr_list hh (ev_name hBs))) (fun x d h => h) rfl ?_ ?_ ?_ ?_ ?_) (.inr rfl)
          · intro k d hd
            obtain ⟨r, hk, rfl⟩ := opqs_get ls k d hd
            rw [hk]
            exact asgF_name Fq.kind (Fq.storeL rfl)
          · intro k hk
            rw [opqs_len]
            exact (List.findIdx?_eq_some_iff_getElem.mp hk).1
          · intro k d hd hlt
            obtain ⟨r, hk, rfl⟩ := opqs_get ls k d hd
            have hf : inTail (hd1 q.2) r.2 = false := by
              cases hs : ls.findIdx? (fun r => inTail (hd1 q.2) r.2) with
              | none => exact (find_none _ ls hs).2 k r hk
              | some k' => obtain ⟨_, _, _, _, h4⟩ := find_some _ ls k' hs; exact h4 k r (hlt k' hs) hk
            have hr := List.mem_of_getElem? hk
            simp only [hk, Option.getD_some]
            refine sb_last (ss_if_seen (x := Str.ofString "s2") (a := r.1) (ds := r.2.map .str) (c := false) rfl (hmem hk) (fun h => tr_eq (tr_cmp (ev_name rfl) (ev_eq (ev_slice (ev_name (d := .list (r.2.map .str)) rfl) (evp_some ev_int) evp_none evp_none (by simp) ?_) (congrArg PyData.list (tail_pick r.2 (hksl r hr).1.1)))
              (op_in (str_shaped _ hcOk) (tail_shaped r.2 (hksl r hr).1.1 (hksl r hr).1.2) hA'.cl)) ((tail_any r.2 _).trans hf)) (fun h => nomatch h) (fun _ => sb_nil fun x d h => weak_s2 x d h hB2)) (.inr rfl)
            have := (hksl r hr).1.1
            simp only [List.length_map]; omega
          · intro k hk
            refine ⟨rfl, ?_⟩
            obtain ⟨r, hk1, hf, _, _⟩ := find_some _ ls k hk
            have hr := List.mem_of_getElem? hk1
            simp only [hk1, Option.getD_some]
            refine sb_last (ss_if_seen (x := Str.ofString "s2") (a := r.1) (ds := r.2.map .str) (c := true) rfl (hmem hk1) (fun h => tr_eq (tr_cmp (ev_name rfl) (ev_eq (ev_slice (ev_name (d := .list (r.2.map .str)) rfl) (evp_some ev_int) evp_none evp_none (by simp) ?_) (congrArg PyData.list (tail_pick r.2 (hksl r hr).1.1)))
              (op_in (str_shaped _ hcOk) (tail_shaped r.2 (hksl r hr).1.1 (hksl r hr).1.2) hA'.cl)) ((tail_any r.2 _).trans hf)) (fun _ => sb_cons (ss_assign Fq ev_none (Fq.storeL rfl)) (sb_last (ss_break (weak_of ?_)) (.inl rfl))) (fun h => nomatch h)) (.inr rfl)
            · have := (hksl r hr).1.1
              simp only [List.length_map]; omega
            · intro p hp
              simp at hp
              rcases hp with rfl | rfl | rfl
              · rfl
              · exact hBs
              · exact hBr
          · intro hno
            exfalso
            rw [badF_eq] at hbad
            obtain ⟨r, hr, hr'⟩ := List.any_eq_true.mp hbad
            obtain ⟨k, hk⟩ := List.getElem?_of_mem hr
            rw [(find_none _ ls hno).2 k r hk] at hr'; cases hr'
        · intro j hjs
          obtain ⟨q, hj, hgood, hcand, _⟩ := hstopS j hjs
          refine ⟨rfl, ?_⟩
          rw [hcand]
          have hq := List.mem_of_getElem? hj
          have hB : ∀ p ∈ [(Str.ofString "sequences", PyData.list (opqs (QS ls))), (Str.ofString "result", opq Rr)], (if j = 0 then [(Str.ofString "sequences", PyData.list (opqs (QS ls))), (Str.ofString "result", opq Rr)] else [(Str.ofString "candidate", .none), (Str.ofString "sequences", .list (opqs (QS ls))), (Str.ofString "result", opq Rr)]).lookup p.1 = some p.2 := by
            intro p hp
            by_cases h0 : j = 0
            · rw [if_pos h0]; simp at hp; rcases hp with rfl | rfl <;> rfl
            · rw [if_neg h0]; simp at hp; rcases hp with rfl | rfl <;> rfl
          have hB2 : (if j = 0 then [(Str.ofString "sequences", PyData.list (opqs (QS ls))), (Str.ofString "result", opq Rr)] else [(Str.ofString "candidate", .none), (Str.ofString "sequences", .list (opqs (QS ls))), (Str.ofString "result", opq Rr)]).lookup (Str.ofString "s2") = none := by
            by_cases h0 : j = 0
            · rw [if_pos h0]; rfl
            · rw [if_neg h0]; rfl
          generalize (if j = 0 then [(Str.ofString "sequences", PyData.list (opqs (QS ls))), (Str.ofString "result", opq Rr)] else [(Str.ofString "candidate", .none), (Str.ofString "sequences", .list (opqs (QS ls))), (Str.ofString "result", opq Rr)]) = B at hB hB2 ⊢
          have hBs := hB _ (.head _)
          have hBr := hB _ (.tail _ (.head _))
          simp only [hj, Option.getD_some]
          refine sb_cons (ss_assign_seen (x := Str.ofString "s1") (a := q.1) (ds := q.2.map .str) (c := hd1 q.2) Fq rfl (hmem hj) (fun h => ev_item (ev_name rfl) ev_int (by decide) (by decide) (hhd hj)) (Fq.storeL rfl)) ?_
          have hcOk : PyData.strOk (hd1 q.2) = true := by
            obtain ⟨t, ht⟩ := hrows q hq
            exact (hksl q hq).1.2 _ (by rw [ht]; simp [hd1])
          refine sb_last (ss_for (ds := opqs (QS ls)) (fun _ => (Str.ofString "candidate", .str (hd1 q.2)) :: (Str.ofString "s1", opq q.1) :: B) (fun k => (Str.ofString "s2", opq (ls[k]?.getD (0, [])).1) :: (Str.ofString "candidate", .str (hd1 q.2)) :: (Str.ofString "s1", opq q.1) :: B) (fun _ => (Rr, res.map .str) :: QS ls)
            (ls.findIdx? fun r => inTail (hd1 q.2) r.2) Fq (SR.two (sr_list hh (ev_name hBs))) (fun x d h => h) rfl ?_ ?_ ?_ ?_ ?_) (.inr rfl)
          · intro k d hd
            obtain ⟨r, hk, rfl⟩ := opqs_get ls k d hd
            rw [hk]
            exact asgF_name Fq.kind (Fq.storeL rfl)
          · intro k hk
            rw [opqs_len]
            exact (List.findIdx?_eq_some_iff_getElem.mp hk).1
          · intro k d hd hlt
            obtain ⟨r, hk, rfl⟩ := opqs_get ls k d hd
            have hf : inTail (hd1 q.2) r.2 = false := by
              cases hs : ls.findIdx? (fun r => inTail (hd1 q.2) r.2) with
              | none => exact (find_none _ ls hs).2 k r hk
              | some k' => obtain ⟨_, _, _, _, h4⟩ := find_some _ ls k' hs; exact h4 k r (hlt k' hs) hk
            have hr := List.mem_of_getElem? hk
            simp only [hk, Option.getD_some]
            refine sb_last (ss_if_seen (x := Str.ofString "s2") (a := r.1) (ds := r.2.map .str) (c := false) rfl (hmem hk) (fun h => tr_eq (tr_cmp (ev_name rfl) (ev_eq (ev_slice (ev_name (d := .list (r.2.map .str)) rfl) (evp_some ev_int) evp_none evp_none (by simp) ?_) (congrArg PyData.list (tail_pick r.2 (hksl r hr).1.1)))
              (op_in (str_shaped _ hcOk) (tail_shaped r.2 (hksl r hr).1.1 (hksl r hr).1.2) hA'.cl)) ((tail_any r.2 _).trans hf)) (fun h => nomatch h) (fun _ => sb_nil fun x d h => weak_s2 x d h hB2)) (.inr rfl)
            have := (hksl r hr).1.1
            simp only [List.length_map]; omega
          · intro k hk
            exfalso
            obtain ⟨r, hk1, hf, _, _⟩ := find_some _ ls k hk
            rw [badF_eq, List.any_eq_false] at hgood
            exact hgood r (List.mem_of_getElem? hk1) hf
          · intro hno
            refine sb_last (ss_break (weak_of ?_)) (.inl rfl)
            intro p hp
            simp at hp
            rcases hp with rfl | rfl | rfl
            · rfl
            · exact hBs
            · exact hBr
        · intro hno
          rw [hstopN hno, opqs_len, if_neg (Nat.ne_of_gt hpos)]
          exact sb_nil fun x d h => h
        cases hc : candF (ls.map (·.2)) with
        | none =>
          rw [hc] at hmm i₆
          cases hmm
          refine wpAny_execs_cons (wpAny_If (TR.use i₆.ok (tr_cmp (ev_name (d := .none) rfl) ev_none op_is_none) fun s₇ k₇ => ?_))
          rw [if_pos rfl]
          have i₇ := i₆.keeps k₇
          refine wpAny_execs_cons (wpAny_Raise_call PySem.F.excCall_RuntimeError PySem.F.excRaise_RuntimeError hh rfl (nm_builtin T.bn.2.2.2.2.2 rfl Fq.glob Fq.blt i₇.ok ⟨rfl, args_evl (evl_cons ev_str evl_nil) i₇.ok ⟨_, _, rfl⟩ fun vs s₈ k₈ r₈ => ⟨rfl, ?_, fun h' e hm => ?_⟩⟩))
          · have := r₈.length
            simp at this
            show vs.length ≤ 2 ^ 24
            omega
          · have i₈ := i₇.keeps k₈
            obtain ⟨t, ht, _, _⟩ := hm.there
            have g' : Grow s₈.heap h' := hm.keeps
            have hen8 : s₈.heap.get? e = none := hm.new
            have hen : s.heap.get? e = none := by
              cases z : s.heap.get? e with
              | none => rfl
              | some o =>
                exfalso
                by_cases hq : e = Rr ∨ e ∈ qs.map (·.1)
                · obtain ⟨o', e'⟩ := i₈.ok.xi e (Fq.psX e hq)
                  rw [hen8] at e'; cases e'
                · have := i₈.mv.get e o hq z
                  rw [hen8] at this; cases this
            have hfr' : ∀ a ∈ outer.filterMap (·.frame), ∀ o, s.heap.get? a = some o → h'.get? a = some o := fun a ha o ho => by
              refine g' _ _ (i₈.mv.get a o (fun z => ?_) ho)
              rcases z with z | z
              · rw [z, hnR] at ho; cases ho
              · obtain ⟨m, o', _, _, eo, d, _⟩ := hns a ha
                obtain ⟨q, hq, e⟩ := List.mem_map.mp z
                obtain ⟨vs, m', e', _⟩ := (hown q hq).2.2
                rw [e, eo] at e'; cases e'; cases d
            obtain ⟨mL, cmL, hL, _⟩ := i₈.ok.sc
            have hLd : ∃ o, h'.get? s.heap.objs.size = some o ∧ ∀ vs, o.data ≠ .fields vs := by
              obtain ⟨o, _, _, eo, d, _⟩ := hL
              exact ⟨o, g' _ _ eo, fun vs z => by rw [d] at z; cases z⟩
            have hLT : hT.get? s.heap.objs.size = none := by
              cases z : hT.get? s.heap.objs.size with
              | none => rfl
              | some o => have := Heap.lt_size (top _ _ z); exact absurd this (Nat.lt_irrefl _)
            have hLs : s.heap.get? s.heap.objs.size = none := none_of_lt (Grow.refl _) (Nat.le_refl _)
            obtain ⟨oL, eL, dL⟩ := hLd
            have hszle : s.heap.objs.size ≤ h'.objs.size := Nat.le_of_lt (Heap.lt_size eL)
            obtain ⟨hm8, tk8, es8, _⟩ := id i₈.mv
            refine raise_out (s := { s₈ with heap := h' }) (hT := hT) (fr := outer.filterMap (·.frame)) (L := s.heap.objs.size) (outer := outer) (kx_of_mv i₈.mv hnR g') (Around.frames_deeper hfr)
              ⟨(by intro z; cases z), ⟨s.heap.objs.size, oL, rfl, hLT, eL, dL⟩, frames_move hfun fun L hLm o ho => ⟨o, hfr' L hLm o ho, rfl⟩⟩ rfl ?_ (fun a ha => none_of_lt (Grow.refl _) (Nat.le_trans hszle ha)) hen ht rfl rfl fun h₉ k₉ tb₉ hl₉ => ?_
            · intro a ha
              rw [List.filterMap_cons] at ha
              rcases List.mem_cons.mp ha with rfl | ha
              · exact .inr hLs
              · exact .inl ha
            · refine herr e _ rfl ⟨h₉, s₈.toks, ?_⟩ k₉ tb₉ hl₉.2.2
              rw [es8]
        | some c =>
          rw [hc] at hmm i₆
          refine wpAny_execs_cons (wpAny_If (TR.use i₆.ok (tr_cmp (ev_name (d := .str c) rfl) ev_none op_is_str) fun s₇ k₇ => ?_))
          rw [if_neg (by decide)]
          refine wpAny_execs_nil ?_
          have i₇ := i₆.keeps k₇
          have hRq : ∀ p ∈ QS ls, p.1 ≠ Rr := fun p hp z => by
            obtain ⟨q, hq, rfl⟩ := List.mem_map.mp hp
            exact hXR (z ▸ (hksl q hq).2)
          refine wpAny_execs_cons (SS.use i₇ (ss_append Fq rfl (ev_name (d := .str c) rfl) hRq (by simp only [List.length_map]; omega)) fun s₈ i₈ _ => ?_)
          have hnl : (ls.map (·.1)).Nodup := by
            rw [← hls]
            exact hkn.sublist (List.Sublist.map _ (List.filter_sublist ..))
          have hcOk : PyData.strOk c = true := by
            rw [candF_eq] at hc
            cases hf : ls.find? (fun q => !badF (ls.map (·.2)) (hd1 q.2)) with
            | none => rw [hf] at hc; cases hc
            | some q =>
              rw [hf] at hc; cases hc
              have hq := List.mem_of_find?_eq_some hf
              obtain ⟨t, ht⟩ := hrows q hq
              exact (hksl q hq).1.2 _ (by rw [ht]; simp [hd1])
          refine wpAny_execs_cons (SS.use i₈ (ss_for (ds := opqs (QS ls)) (bs' := [(Str.ofString "sequences", .list (opqs (QS ls))), (Str.ofString "result", opq Rr)]) (ow' := (Rr, (res ++ [c]).map .str) :: QS (ls.map fun q => (q.1, dropF c q.2))) (br := false)
            (fun _ => [(Str.ofString "candidate", .str c), (Str.ofString "sequences", .list (opqs (QS ls))), (Str.ofString "result", opq Rr)])
            (fun j => (Str.ofString "seq", opq (ls[j]?.getD (0, [])).1) :: [(Str.ofString "candidate", .str c), (Str.ofString "sequences", .list (opqs (QS ls))), (Str.ofString "result", opq Rr)])
            (fun j => (Rr, (res ++ [c]).map .str) :: QS ((ls.take j).map (fun q => (q.1, dropF c q.2)) ++ ls.drop j)) none Fq (SR.two (sr_list hh (ev_name rfl))) (fun x d h => h) (by simp) ?_ (by intro k hk; cases hk) ?_ (by intro k hk; cases hk) ?_) fun s₉ i₉ _ => wpAny_execs_nil ?_)
          · intro j d hd
            obtain ⟨q, hj, rfl⟩ := opqs_get ls j d hd
            rw [hj]
            exact asgF_name Fq.kind (Fq.storeL rfl)
          · intro j d hd _
            obtain ⟨q, hj, rfl⟩ := opqs_get ls j d hd
            have hq := List.mem_of_getElem? hj
            obtain ⟨t, ht⟩ := hrows q hq
            have hjl : j < ls.length := (List.getElem?_eq_some_iff.mp hj).1
            have e0 : ls.drop j = q :: ls.drop (j + 1) := by
              rw [List.drop_eq_getElem_cons hjl]
              rw [List.getElem?_eq_getElem hjl] at hj
              cases hj; rfl
            have e1 : ls.take (j + 1) = ls.take j ++ [q] := by rw [List.take_add_one, hj]; rfl
            have e2 : (ls.take (j + 1)).map (fun q => (q.1, dropF c q.2)) ++ ls.drop (j + 1) = (ls.take j).map (fun q => (q.1, dropF c q.2)) ++ (q.1, dropF c q.2) :: ls.drop (j + 1) := by
              rw [e1, List.map_append, List.append_assoc]; rfl
            rw [e0, e2]
            simp only [hj, Option.getD_some]
            have hmq : (q.1, q.2.map PyData.str) ∈ (Rr, (res ++ [c]).map PyData.str) :: QS ((ls.take j).map (fun q => (q.1, dropF c q.2)) ++ q :: ls.drop (j + 1)) := .tail _ (List.mem_map.mpr ⟨q, by simp, rfl⟩)
            have hqOk : PyData.strOk (hd1 q.2) = true := (hksl q hq).1.2 _ (by rw [ht]; simp [hd1])
            refine sb_last (ss_if_seen (x := Str.ofString "seq") (a := q.1) (ds := q.2.map .str) (c := heq (hd1 q.2) c) rfl hmq (fun h => tr_cmp (ev_item (ev_name rfl) ev_int (by decide) (by decide) (hhd hj)) (ev_name (d := .str c) rfl) (op_eq (str_shaped _ hqOk) (str_shaped _ hcOk) (by have := hA'.cl; omega))) (fun hT' => ?_) (fun hF => ?_)) (.inr rfl)
            · have hdrop : dropF c q.2 = t := by unfold dropF; rw [hT', if_pos rfl, ht]; rfl
              rw [hdrop]
              have hoth : ∀ p ∈ (Rr, (res ++ [c]).map PyData.str) :: QS ((ls.take j).map (fun q => (q.1, dropF c q.2)) ++ ls.drop (j + 1)), p.1 ≠ q.1 := by
                intro p hp z
                rcases List.mem_cons.mp hp with rfl | hp
                · have z : Rr = q.1 := z
                  exact hXR (by rw [z]; exact (hksl q hq).2)
                · obtain ⟨q', hq', rfl⟩ := List.mem_map.mp hp
                  have hsplit : ls.map (·.1) = (ls.take j).map (·.1) ++ q.1 :: (ls.drop (j + 1)).map (·.1) := by
                    conv => lhs; rw [← List.take_append_drop j ls, e0]
                    rw [List.map_append, List.map_cons]
                  rw [hsplit] at hnl
                  have hnl' := List.nodup_append.mp hnl
                  rcases List.mem_append.mp hq' with h | h
                  · obtain ⟨q'', h'', rfl⟩ := List.mem_map.mp h
                    exact hnl'.2.2 q''.1 (List.mem_map.mpr ⟨q'', h'', rfl⟩) q.1 (.head _) z
                  · have := (List.nodup_cons.mp hnl'.2.1).1
                    exact this (List.mem_map.mpr ⟨q', h, z⟩)
              refine sb_cons (ss_perm (ow₁ := (q.1, PyData.str (hd1 q.2) :: t.map .str) :: (Rr, (res ++ [c]).map PyData.str) :: QS ((ls.take j).map (fun q => (q.1, dropF c q.2)) ++ ls.drop (j + 1))) ?_ ?_ (ss_del0 Fq rfl hoth ?_)) (sb_nil (weak_of ?_))
              · intro p hp
                rcases List.mem_cons.mp hp with rfl | hp
                · have := hmq
                  rw [ht] at this; exact this
                · rcases List.mem_cons.mp hp with rfl | hp
                  · exact .head _
                  · obtain ⟨q', hq', rfl⟩ := List.mem_map.mp hp
                    refine .tail _ (List.mem_map.mpr ⟨q', ?_, rfl⟩)
                    rcases List.mem_append.mp hq' with h | h
                    · exact List.mem_append.mpr (.inl h)
                    · exact List.mem_append.mpr (.inr (.tail _ h))
              · intro p hp
                rcases List.mem_cons.mp hp with rfl | hp
                · exact .tail _ (.head _)
                · obtain ⟨q', hq', rfl⟩ := List.mem_map.mp hp
                  rcases List.mem_append.mp hq' with h | h
                  · exact .tail _ (.tail _ (List.mem_map.mpr ⟨q', List.mem_append.mpr (.inl h), rfl⟩))
                  · rcases List.mem_cons.mp h with rfl | h
                    · exact .head _
                    · exact .tail _ (.tail _ (List.mem_map.mpr ⟨q', List.mem_append.mpr (.inr h), rfl⟩))
              · have := (hksl q hq).1.1
                rw [ht] at this
                simp at this ⊢
                omega
              · intro p hp; simp at hp; rcases hp with rfl | rfl | rfl <;> rfl
            · have hdrop : dropF c q.2 = q.2 := by unfold dropF; rw [hF, if_neg (by decide)]
              rw [hdrop]
              refine sb_nil (weak_of ?_)
              intro p hp; simp at hp; rcases hp with rfl | rfl | rfl <;> rfl
          · intro _
            rw [opqs_len, List.take_length, List.drop_length, List.append_nil]
            refine sb_nil (weak_of ?_)
            intro p hp; simp at hp; rcases hp with rfl | rfl <;> rfl
          · refine ⟨n', Nat.lt_succ_self _, ls.map (fun q => (q.1, dropF c q.2)), res ++ [c], ?_, ?_, ?_, ?_, ?_, ?_⟩
            · intro q hq
              obtain ⟨q', hq', rfl⟩ := List.mem_map.mp hq
              have h1 := hksl q' hq'
              refine ⟨⟨?_, ?_⟩, h1.2⟩
              · show (dropF c q'.2).length ≤ 2
                unfold dropF
                split
                · have := h1.1.1; simp; omega
                · exact h1.1.1
              · intro y hy
                have hy : y ∈ dropF c q'.2 := hy
                unfold dropF at hy
                split at hy
                · exact h1.1.2 y (List.mem_of_mem_tail hy)
                · exact h1.1.2 y hy
            · rw [List.map_map]; exact hnl
            · rw [List.length_map]; exact hll
            · rw [List.length_append]; simp; omega
            · replace hmm : mergeF n' ((ls.map (·.2)).map (dropF c)) (res ++ [c]) = some out := hmm
              rw [List.map_map] at hmm ⊢
              exact hmm
            · have e : opqs (QS (ls.map fun q => (q.1, dropF c q.2))) = opqs (QS ls) := by
                unfold opqs QS
                rw [List.map_map, List.map_map, List.map_map]; rfl
              rw [e]; exact i₉
    · refine ⟨qs, [], fun q hq => ⟨(hown q hq).2.1, List.mem_map.mpr ⟨q, hq, rfl⟩⟩, hnd, hlen, by simpa using hn, hm, iq.weak (weak_of ?_)⟩
      intro p hp; simp at hp; rcases hp with rfl | rfl <;> rfl
end Mine
end
section
open PySem PySem.W PyProof.Rows
set_option maxRecDepth 100000
set_option maxHeartbeats 4000000
namespace Mine
variable {w : World} {hT : Heap} {A : Around} {X : Addr → Prop} {env : Env} {bs : List (Str × PyData)}
noncomputable def prs : List (Nat × Nat × Int) := [(97, 98, 4), (98, 99, 2), (99, 97, 1)]
noncomputable def pbit (n w : Int) : Bool := (n.fdiv w).fmod 2 == 1
noncomputable def prow (n : Int) (p : Nat × Nat × Int) : List Str := if pbit n p.2.2 then [sgn1 p.1, sgn1 p.2.1] else [sgn1 p.2.1, sgn1 p.1]
noncomputable def prD (p : Nat × Nat × Int) : PyData := .tuple [.str ⟨#[p.1, p.2.1]⟩, .int p.2.2]
noncomputable def ordF (n : Int) : Str := match mergeF 6 (prs.map (prow n)) [] with
  | some (some l) => Txt.join (Str.ofString "") l
  | _ => ⟨#[]⟩
/-- everything that stands -/
noncomputable abbrev XS (h : Heap) : Addr → Prop := fun a => ∃ o, h.get? a = some o
/-- a list of text lists, by addresses -/
theorem rows_of {h : Heap} : ∀ {vs : List Value} {ls : List (List Str)}, RpL X h vs (ls.map fun l => PyData.list (l.map .str)) →
    ∃ qs : QL, vs = qs.map (fun q => .ref q.1) ∧ qs.map (·.2) = ls ∧ ∀ q ∈ qs, ¬ X q.1 ∧ OwnL Xno h q.1 (q.2.map .str)
  | [], [], _ => ⟨[], rfl, rfl, fun q hq => (nomatch hq)⟩
  | [], _ :: _, r => by cases r
  | _ :: _, [], r => by cases r
  | v :: vs, l :: ls, .cons r rs => by
    obtain ⟨qs, h1, h2, h3⟩ := rows_of rs
    cases r with
    | @list a us n _ e nx rl =>
      refine ⟨(a, l) :: qs, by rw [h1]; rfl, by rw [← h2]; rfl, fun q hq => ?_⟩
      rcases List.mem_cons.mp hq with rfl | hq
      · exact ⟨nx, us, n, e, rl.less fun _ z => z.elim⟩
      · exact h3 q hq
theorem own_inj {h : Heap} {a : Addr} {l l' : List Str} (o : OwnL Xno h a (l.map .str)) (o' : OwnL Xno h a (l'.map .str)) : l = l' := by
  obtain ⟨vs, n, e, r⟩ := o
  obtain ⟨vs', n', e', r'⟩ := o'
  rw [e] at e'; cases e'
  obtain ⟨t, h1, h2⟩ := strs_of r
  obtain ⟨t', h1', h2'⟩ := strs_of r'
  rw [h1] at h1'
  have : t.map (·.1) = t'.map (·.1) := by
    clear h2 h2' h1 r r' e
    induction t generalizing t' with
    | nil => cases t' with
      | nil => rfl
      | cons => cases h1'
    | cons p t ih => cases t' with
      | nil => cases h1'
      | cons p' t' =>
        simp only [strValues, List.map_cons, List.cons.injEq] at h1' ⊢
        exact ⟨(Value.str.inj h1'.1).1, ih t' h1'.2⟩
  rw [← h2, ← h2', this]
theorem nodup_of_rows {h : Heap} : ∀ {qs : QL}, (qs.map (·.2)).Nodup → (∀ q ∈ qs, OwnL Xno h q.1 (q.2.map .str)) → (qs.map (·.1)).Nodup
  | [], _, _ => .nil
  | q :: qs, hn, ho => by
    rw [List.map_cons, List.nodup_cons] at hn ⊢
    refine ⟨fun hm => hn.1 ?_, nodup_of_rows hn.2 fun q' hq' => ho q' (.tail _ hq')⟩
    obtain ⟨q', hq', e⟩ := List.mem_map.mp hm
    have h1 := ho q (.head _)
    have h2 := ho q' (.tail _ hq')
    rw [e] at h2
    exact List.mem_map.mpr ⟨q', hq', (own_inj h1 h2).symm⟩
theorem name_bn {x : Str} {pos : Pos} {v : Value} {s : Shared} {A : Around} {E : Value → Shared → Prop} {Q : Value → Shared → Prop} (hg : BN hT x v) (hk : env.scope.kind = .function) (hx : env.kindOf x = some .globalImplicit) (hgl : env.globals = mainGlobals) (hbl : env.builtins = builtinsNs) (top : Grow hT s.heap) (h : Q v s)
    (hd : (x == ("__debug__" : Str)) = false := by decide) : wpAny (model PR w) A (eval (.Name x pos) env) Q E s := by
  obtain ⟨mg, mb, hn, hv, hb, hw⟩ := hg
  exact Calls.Name_function_global hk hx (Calls.loadGlobal_builtin (by rw [hgl]; exact hn.keeps top) hv (by rw [hbl]; exact hb.keeps top) hw h) hd
theorem KX.top {S : Addr → Prop} {l : List Env} {h h' : Heap} (k : KX S (l.filterMap (·.frame)) h h') (hS : ∀ a, S a → hT.get? a = none) (hf : h.FunFrames hT l) (top : Grow hT h) : Grow hT h' := fun b o e => by
  obtain ⟨sl, q, r⟩ := k b o (fun z => by rw [hS b z] at e; cases e) (top b o e)
  have : sl = o.slots := r fun hm => by
    have := (hf.mem hm).1
    rw [e] at this; cases this
  rw [q, this]
theorem order_call (T : Tp w hT) {A : Around} {s : Shared} {R : Result → Shared → Prop} {t : Tok} (n : Int) (outer : List Env) (hm : ∃ out, mergeF 6 (prs.map (prow n)) [] = some out ∧ (∀ l, out = some l → JoinOk (Str.ofString "") l = true)) (hp : ∀ w ∈ [(4 : Int), 2, 1], Builtin.divisionGoesByPylong n w = false)
    (hnd : (prs.map (prow n)).Nodup) (hA : ARoom 2 A) (hfr : A.frames = some outer)
    (hfun : s.heap.FunFrames hT outer) (hns : ∀ a ∈ outer.filterMap (·.frame), ∃ m, s.heap.Ns a m) (top : Grow hT s.heap)
    (hR : ∀ v s', (∃ h' tk, s' = { s with heap := h', toks := tk }) → KX (fun _ => False) (outer.filterMap (·.frame)) s.heap s'.heap → Rp Xno s'.heap v (.str (ordF n)) → R (.ok (.ret v)) s') :
    codeAny (model PR w) A (.call (.ref 101) ⟨[.int n t], []⟩) R s := by
  obtain ⟨out, hm, hjo⟩ := hm
  refine fn_enter (X := XS s.heap) (ps := [Str.ofString "told"]) (ds := [.int n]) (T.k 101 _ rfl) rfl T.lim (codeRec_of T.k (by rfl)) rfl rfl rfl rfl (.of_eq rfl) ?_ rfl hA top (fun _ q => q) (.cons (.int _ _) .nil) ?_
  · intro n x hx; simp at hx; subst hx; exact .inl rfl
  intro s₁ hA' F hsc k
  have hh := hA'.1
  refine wpAny_execs_cons (own_new F (F.storeL rfl) hsc k fun P s₂ hXP hnP Fo i => ?_)
  have hdd : ∀ (j : Nat) d, (prs.map prD)[j]? = some d → ∃ p, prs[j]? = some p ∧ d = prD p := fun j d hd => by
    rw [List.getElem?_map] at hd
    cases hq : prs[j]? with
    | none => rw [hq] at hd; cases hd
    | some q => rw [hq] at hd; cases hd; exact ⟨q, rfl, rfl⟩
  refine wpAny_execs_cons (SS.use i (ss_for (ds := prs.map prD) (bs' := [(Str.ofString "pairs", opq P)]) (ow' := [(P, (prs.map (prow n)).map fun l => PyData.list (l.map .str))]) (br := false)
    (fun _ => [(Str.ofString "pairs", opq P), (Str.ofString "told", .int n)])
    (fun j => (Str.ofString "worth", .int (prs[j]?.getD (0, 0, 1)).2.2) :: (Str.ofString "pair", .str ⟨#[(prs[j]?.getD (0, 0, 1)).1, (prs[j]?.getD (0, 0, 1)).2.1]⟩) :: [(Str.ofString "pairs", opq P), (Str.ofString "told", .int n)])
    (fun j => [(P, ((prs.take j).map (prow n)).map fun l => PyData.list (l.map .str))]) none Fo (SR.two (sr_tuple hh (ev_tuple (evl_cons (ev_tuple (evl_cons ev_str (evl_cons ev_int evl_nil))) (evl_cons (ev_tuple (evl_cons ev_str (evl_cons ev_int evl_nil))) (evl_cons (ev_tuple (evl_cons ev_str (evl_cons ev_int evl_nil))) evl_nil))) (by show (prs.map prD).length ≤ _; decide)))) (fun x d h => h) rfl ?_ (by intro k hk; cases hk) ?_ (by intro k hk; cases hk) ?_) fun s₃ i₃ _ => ?_)
  · intro j d hd
    obtain ⟨p, hj, rfl⟩ := hdd j d hd
    rw [hj]
    exact asgF_tup [(Str.ofString "pair", _), (Str.ofString "worth", _)] hh Fo.kind rfl rfl rfl (by intro x hx; simp at hx; rcases hx with rfl | rfl <;> exact Fo.storeL rfl)
  · intro j d hd _
    obtain ⟨p, hj, rfl⟩ := hdd j d hd
    have hpm := List.mem_of_getElem? hj
    have hw0 : p.2.2 ≠ 0 ∧ p.2.2 ∈ [(4 : Int), 2, 1] := by
      simp [prs] at hpm
      rcases hpm with rfl | rfl | rfl <;> decide
    have e1 : ((prs.take (j + 1)).map (prow n)).map (fun l => PyData.list (l.map .str)) = ((prs.take j).map (prow n)).map (fun l => PyData.list (l.map .str)) ++ [PyData.list ((prow n p).map .str)] := by
      rw [List.take_add_one, hj]; simp
    rw [e1]
    have hlen : (((prs.take j).map (prow n)).map fun l => PyData.list (l.map .str)).length ≤ 1000 := by
      have : prs.length = 3 := rfl
      simp only [List.length_map, List.length_take]; omega
    obtain ⟨a, b, w'⟩ := p
    simp only [hj, Option.getD_some]
    refine sb_cons (ss_append Fo rfl (ev_eq (ev_if (c := pbit n w') (d := .list [.str (sgn1 a), .str (sgn1 b)]) (d' := .list [.str (sgn1 b), .str (sgn1 a)]) (tr_cmp (ev_bin (ev_bin (ev_name rfl) (ev_name rfl) (op_fdiv hw0.1 (hp _ hw0.2))) ev_int (op_mod (by decide))) ev_int op_eq_int)
      (fun _ => ev_list (evl_cons (ev_sign (x := ⟨#[a, b]⟩) (k := 0) (ev_name rfl) ev_int (by decide) rfl) (evl_cons (ev_sign (x := ⟨#[a, b]⟩) (k := 1) (ev_name rfl) ev_int (by decide) rfl) evl_nil)))
      (fun _ => ev_list (evl_cons (ev_sign (x := ⟨#[a, b]⟩) (k := 1) (ev_name rfl) ev_int (by decide) rfl) (evl_cons (ev_sign (x := ⟨#[a, b]⟩) (k := 0) (ev_name rfl) ev_int (by decide) rfl) evl_nil)))) ?_) (by intro q hq; cases hq) hlen) (sb_nil (weak_of ?_))
    · unfold prow; cases pbit n w' <;> rfl
    · intro p hp; simp at hp; rcases hp with rfl | rfl <;> rfl
  · intro _
    refine sb_nil (weak_of ?_)
    intro p hp; simp at hp; subst hp; rfl
  -- try
  refine wpAny_execs_cons (wpAny_Try_except (wpAny_execs_cons (wpAny_Return_some (ev_joinQ (X := Xno) fun s₄ k₄ => ?_))))
  have i₄ := i₃.keeps k₄
  refine wpAny_Call_Name_kw (nm_global T.gn.2.2.2.1 rfl Fo.glob i₄.ok ?_)
  refine Calls.callWith_function (args_evl (evl_cons (ev_name (d := opq P) rfl) evl_nil) i₄.ok ⟨_, _, rfl⟩ fun vs s₅ k₅ r₅ => ⟨⟨i₄.ok.top.trans (keeps_grow k₅) _ _ (T.k 75 _ rfl), rfl⟩, ?_⟩)
  have i₅ := i₄.keeps k₅
  cases r₅ with
  | cons r r2 =>
  cases r2
  cases rp_opq r
  obtain ⟨vsP, nP, eP, rl⟩ := (i₅.own _ (.head _)).2
  obtain ⟨qs, hvs, hqs, hq⟩ := rows_of rl
  have hqX : ∀ q ∈ qs, s.heap.get? q.1 = none ∧ q.1 ≠ P := fun q hm => by
    refine ⟨?_, fun z => (hq q hm).1 (.inr z)⟩
    cases z : s.heap.get? q.1 with
    | none => rfl
    | some o => exact absurd (.inl ⟨o, z⟩) (hq q hm).1
  have hLs : s.heap.get? s.heap.objs.size = none := none_of_lt (Grow.refl _) (Nat.le_refl _)
  have hLT : hT.get? s.heap.objs.size = none := by
    cases z : hT.get? s.heap.objs.size with
    | none => rfl
    | some o => have := Heap.lt_size (top _ _ z); exact absurd this (Nat.lt_irrefl _)
  have keep : ∀ b o, s.heap.get? b = some o → s₅.heap.get? b = some o := fun b o e => i₅.mv.get b o (fun z => by rw [z, hnP] at e; cases e) e
  obtain ⟨mL, cmL, hL, _⟩ := i₅.ok.sc
  have hLd : ∃ o, s₅.heap.get? s.heap.objs.size = some o ∧ ∀ vs, o.data ≠ .fields vs := by
    obtain ⟨o, _, _, eo, d, _⟩ := id hL
    exact ⟨o, eo, fun vs z => by rw [d] at z; cases z⟩
  obtain ⟨oL, eL, dL⟩ := hLd
  obtain ⟨h₅, tk₅, es₅, _⟩ := id i₅.mv
  refine wpAny_call (c3_call T (P := P) (n := 6) qs out (_ :: outer) hA' (Around.frames_deeper hfr) ⟨(by intro z; cases z), ⟨s.heap.objs.size, oL, rfl, hLT, eL, dL⟩, frames_move hfun fun L hLm o ho => ⟨o, keep L o ho, rfl⟩⟩ ?_ i₅.ok.top eP hvs (fun q hm => (hqX q hm).2) (nodup_of_rows (by rw [hqs]; exact hnd) fun q hm => (hq q hm).2) ?_ ?_ (by decide) (by rw [hqs]; exact hm) ?_ ?_)
  · intro a ha
    rw [List.filterMap_cons] at ha
    rcases List.mem_cons.mp ha with rfl | ha
    · exact ⟨mL, hL⟩
    · obtain ⟨m, hn⟩ := hns a ha
      exact ⟨m, hn.at' fun o e => keep _ _ e⟩
  · intro q hm
    refine ⟨?_, ?_, (hq q hm).2⟩
    · cases z : hT.get? q.1 with
      | none => rfl
      | some o => have := top _ _ z; rw [(hqX q hm).1] at this; cases this
    · have hmem : q.2 ∈ prs.map (prow n) := by rw [← hqs]; exact List.mem_map.mpr ⟨q, hm, rfl⟩
      obtain ⟨p, hpm, e⟩ := List.mem_map.mp hmem
      rw [← e]
      simp [prs] at hpm
      unfold prow
      rcases hpm with rfl | rfl | rfl <;> split <;> refine ⟨by decide, ?_⟩ <;> intro y hy <;> simp [sgn1] at hy <;> rcases hy with rfl | rfl <;> decide +kernel
  · have := congrArg List.length hqs
    simp [prs] at this; omega
  · intro l v s₆ hout mv₆ r₆
    cases r₆ with
    | @list a us m _ e₆ _ rl₆ =>
      refine ⟨a, us, l, m, rfl, e₆, rl₆, hjo l hout, fun t' k' => ?_⟩
      obtain ⟨h₆, tk₆, rfl, g₆⟩ := mv₆
      refine hR _ _ ⟨h₆, k', by rw [es₅]⟩ (fun b o _ e => ⟨o.slots, g₆ b o (fun z => ?_) (keep b o e), fun _ => rfl⟩) ?_
      · obtain ⟨q, hm, e'⟩ := List.mem_map.mp z
        rw [← e', (hqX q hm).1] at e; cases e
      · have : ordF n = Txt.join (Str.ofString "") l := by unfold ordF; rw [hm, hout]
        rw [this]; exact .str _ _
  · intro e s₆ hout hs₆ kx tb hl
    obtain ⟨h₆, tk₆, rfl⟩ := hs₆
    have kx' : KX (fun _ => False) (outer.filterMap (·.frame)) s.heap h₆ := fun b o _ e' => by
      obtain ⟨sl, q1, q2⟩ := kx b o (fun z => by obtain ⟨q, hm, e''⟩ := List.mem_map.mp z; rw [← e'', (hqX q hm).1] at e'; cases e') (keep b o e')
      refine ⟨sl, q1, fun nf => q2 fun hm => ?_⟩
      rw [List.filterMap_cons] at hm
      rcases List.mem_cons.mp hm with z | z
      · rw [z, hLs] at e'; cases e'
      · exact nf z
    have none₅ : ∀ a, s₅.heap.get? a = none → s.heap.get? a = none := fun a z => by
      cases y : s.heap.get? a with
      | none => rfl
      | some o => rw [keep a o y] at z; cases z
    have tb' : TbAt (.type "RuntimeError") s.heap h₆ e .none := by
      obtain ⟨a, oe, us, T', oT, ts, b1, b2, b3, b4, b5, b6, b7⟩ := tb
      exact ⟨none₅ _ a, oe, us, T', oT, ts, b1, b2, b3, b4, b5, none₅ _ b6, b7⟩
    have hsz : s.heap.objs.size < h₆.objs.size := by
      obtain ⟨_, ⟨L', oL', hf', _, eL', _⟩, _⟩ := hl
      have : s.heap.objs.size = L' := Option.some.inj hf'
      rw [this]; exact Heap.lt_size eL'
    have hfun' : s.heap.FunFrames hT outer := hfun
    refine note_next (s := { s₅ with heap := h₆, toks := tk₆ }) kx' tb' (Around.frames_deeper hfr) hl rfl ?_ (fun a ha => none_of_lt (Grow.refl _) (Nat.le_trans (Nat.le_of_lt hsz) ha)) fun h₇ k₇ tb₇ hl₇ => ?_
    · intro a ha
      rw [List.filterMap_cons] at ha
      rcases List.mem_cons.mp ha with rfl | ha
      · exact .inr hLs
      · exact .inl ha
    refine flight_set (s := { s₅ with heap := h₇, toks := tk₆ }) k₇ tb₇ hl₇ fun h₈ k₈ tb₈ hl₈ => ?_
    refine wpAny_handleBy_builtin (X := "RuntimeError") (T := "RuntimeError") (b := true) PySem.F.isExc_RuntimeError PySem.F.notTuple_RuntimeError PySem.F.self_RuntimeError (name_bn T.bn.2.2.2.2.2 rfl rfl Fo.glob Fo.blt (k₈.top (fun _ z => z.elim) hfun top) ⟨rfl, ?_, ?_⟩)
    · obtain ⟨_, oe, _, _, _, _, b1, b2, _⟩ := tb₈
      exact ⟨oe, b1, b2⟩
    rw [if_pos rfl]
    refine flight_set (s := { s₅ with heap := h₈, toks := tk₆ }) k₈ tb₈ hl₈ fun h₉ k₉ tb₉ hl₉ => ?_
    refine wpAny_execs_cons (wpAny_Return_some (wpAny_Constant_str ?_))
    refine hR _ _ ⟨h₉, _, by rw [es₅]⟩ k₉ ?_
    have : ordF n = ⟨#[]⟩ := by unfold ordF; rw [hm, hout]
    rw [this]; exact .str _ _
end Mine
end
section
open PySem PySem.W PyProof.Rows
namespace Mine
variable {prog : Program} {w : World} {hT : Heap} {A : Around} {X : Addr → Prop} {env : Env} {bs : List (Str × PyData)} {E : Value → Shared → Prop}
/-- a list's items drawn one by one -/
theorem draw_list {it l : Addr} {items : Array Value} (hne : l ≠ it) : ∀ (n i : Nat) (s : Shared) (Q : List Value → Shared → Prop), s.heap.IsListIter it l i → s.heap.IsList l items → i + n ≤ items.size →
    (∀ h', h'.IsListIter it l (i + n) → Heap.SameBut it s.heap h' → Q ((items.toList.drop i).take n) { s with heap := h' }) → wpAny (model prog w) A (draw (.ref it) n) Q E s
  | 0, i, s, Q, hit, _, _, hQ => by
    show wpAny _ _ (pure []) Q E s
    exact wpAny_pure (by simpa using hQ s.heap hit (Heap.SameBut.refl ..))
  | n + 1, i, s, Q, hit, ht, hle, hQ => by
    have hlt : i < items.size := by omega
    show wpAny _ _ (pyNext (.ref it) >>= _) Q E s
    refine wpAny_bind (wpAny_pyNext_list_item hit ht (x := items[i]) (by simp [hlt]) fun h₁ hit₁ hs₁ => ?_)
    refine wpAny_bind (wpAny_holding (draw_list hne n (i + 1) _ _ hit₁ (ht.extBut hs₁.extBut hne) (by omega) fun h₂ hit₂ hs₂ => wpAny_pure ?_))
    have hd : items.toList.drop i = items[i] :: items.toList.drop (i + 1) := by simp [List.drop_eq_getElem_cons, hlt]
    have := hQ h₂ (by rw [show i + (n + 1) = i + 1 + n by omega]; exact hit₂) (hs₁.trans hs₂)
    rw [hd, List.take_succ_cons] at this
    exact this
theorem unpack_list {v : Value} {ds : List PyData} {n : Nat} {s : Shared} {Q : List Value → Shared → Prop} (hh : A.handled = none) (r : Rp X s.heap v (.list ds)) (hn : n = ds.length)
    (hQ : ∀ items s', Keeps s s' → RpL X s'.heap items ds → Q items s') : wpAny (model prog w) A (unpackItems v n none) Q E s := by
  cases r with
  | @list a vs m _ e nx rl =>
    have l1 := rl.length
    simp only [Array.length_toList] at l1
    have hL : s.heap.IsList a vs := ⟨_, e, rfl, _, rfl⟩
    have hlt : a ≠ s.heap.objs.size := Nat.ne_of_lt (Heap.lt_size e)
    have hn' : n = vs.size := by omega
    subst hn'
    unfold unpackItems
    refine wpAny_bind ?_
    unfold notIterableAtAll
    refine wpAny_bind (wpAny_specialOf hL.typeIs F.slot_list_iter.lookup ?_)
    refine wpAny_pure ?_
    simp only [Bool.false_eq_true, if_false]
    refine wpAny_bind (wpAny_holding (wpAny_pyIter_list hL ?_))
    have hL' : (s.heap.push { cls := .type "list_iterator", data := .fields #[.ref a, .int 0 0] }).IsList a vs := ⟨_, Heap.get?_push_of_some _ e, rfl, _, rfl⟩
    refine wpAny_bind (wpAny_holding (draw_list hlt vs.size 0 _ _ ⟨_, Heap.get?_push_size _ rfl, rfl, rfl⟩ hL' (by omega) fun h₁ hit₁ hs₁ => ?_))
    have hall : List.take vs.size (List.drop 0 vs.toList) = vs.toList := by
      rw [List.drop_zero]; exact List.take_of_length_le (by simp)
    rw [hall]
    rw [if_neg (by simp)]
    have hL₁ : h₁.IsList a vs := hL'.extBut hs₁.extBut hlt
    refine wpAny_bind (wpAny_holding (wpAny_pyNext_list_end hh hit₁ hL₁ (by simp) fun h₂ he₂ => ?_))
    simp only [Option.isSome_none, Bool.false_eq_true, if_false]
    have g : Grow s.heap h₂ := fun b o q => he₂ b o (Nat.ne_of_lt (Heap.lt_size q)) (hs₁.extBut b o (Nat.ne_of_lt (Heap.lt_size q)) (Heap.get?_push_of_some _ q))
    exact wpAny_pure (hQ _ _ ⟨h₂, s.toks, rfl, g⟩ (rl.grow g))
end Mine
end
section
open PySem PySem.W PyProof.Rows
namespace Mine
variable {prog : Program} {w : World} {hT : Heap} {A : Around} {X : Addr → Prop} {env : Env} {bs : List (Str × PyData)} {s₀ : Shared}
/-- a step that binds, whatever it does to the frame's own places -/
theorem sx_step {st : PySem.Stmt} {rest : List PySem.Stmt} {bs₁ bs' : Bs} {o : Option PyData} (F : FC hT X s₀ env)
    (h : ∀ (s : Shared) (E : Value → Shared → Prop) (Q : Flow → Shared → Prop), Sc X env bs s.heap → Keeps s₀ s → (∀ s', Sc X env bs₁ s'.heap → Mv (PvE env) s s' → Q .next s') → wpAny (model prog w) A (exec st env) Q E s)
    (hr : SX prog w A X s₀ env bs₁ rest bs' o) : SX prog w A X s₀ env bs (st :: rest) bs' o := by
  intro s E hsc k
  refine wpAny_execs_cons (h s E _ hsc k fun s₂ sc₂ mv₂ => ?_)
  refine wpAny_mono (hr s₂ E sc₂ (mv₂.keeps k F.priv)) ?_ fun _ _ e => e
  rintro fl s₃ ⟨k₃, mv₃, h₃⟩
  exact ⟨k₃, mv₂.trans mv₃, h₃⟩
/-- a list unpacked into names -/
theorem sx_unpack {elts : List PySem.Expr} {kk : Nat} {tpos pos : Pos} {value : PySem.Expr} {rest : List PySem.Stmt} (xs : List (Str × Pos)) {ds : List PyData} {bs' : Bs} {o : Option PyData} (F : FC hT X s₀ env) (hh : A.handled = none)
    (hv : EV prog w hT A X env bs value (.list ds)) (hl : xs.length = ds.length)
    (he : (assignEach elts env).map (·.2) = xs.map fun x => assign (.Name x.1 x.2) env) (hst : (assignEach elts env).findIdx? (·.1) = none) (hs : ∀ x ∈ xs, StoreAt (PvE env) env x.1)
    (hr : SX prog w A X s₀ env (tbNames (xs.map (·.1)) ds bs) rest bs' o)
    (h1 : swapsWithSole [.Tuple elts kk tpos] value pos.line env = pure false := by rfl) (h2 : swappedStores [.Tuple elts kk tpos] value env = pure none := by rfl)
    (h3 : (assignEach [.Tuple elts kk tpos] env).map (·.2) = [assign (.Tuple elts kk tpos) env] := by rfl) :
    SX prog w A X s₀ env bs (.Assign [.Tuple elts kk tpos] value pos :: rest) bs' o := by
  refine sx_step F (fun s E Q hsc k hQ => ?_) hr
  refine wpAny_Assign_stores (wpAny_mono (hv s E (F.ok hsc k)) ?_ fun _ _ e => e) h1 h2
  rintro v s₁ ⟨k₁, r₁⟩
  rw [h3]
  show wpAny _ A (assign (.Tuple elts kk tpos) env v) _ _ s₁
  rw [arm_assign_Tuple]
  refine wpAny_bind (wpAny_standAt ?_)
  unfold unpack
  have l2 : (assignEach elts env).length = xs.length := by
    have := congrArg List.length he
    simpa using this
  rw [hst]
  refine wpAny_bind (wpAny_holding (unpack_list hh r₁ (by omega) fun items s₂ k₂ r₂ => ?_))
  rw [he]
  have hli := r₂.length
  refine assign_order (Pv := PvE env) F.kind xs items ds bs s₂ _ (by omega) (hsc.grow (keeps_grow (keeps_trans k₁ k₂))) r₂ hs fun s' sc mv c => ?_
  exact hQ s' sc ((Mv.of (keeps_trans k₁ k₂)).trans mv)
/-- a comprehension of calls that may turn the frame's slots, stored at once -/
theorem sx_compK {elt target iter : PySem.Expr} {scope : Scope} {pos spos py : Pos} {y : Str} {cl : List (Str × Addr)} {cbs : List (Str × PyData)} {ds : List PyData} {tb : PyData → List (Str × PyData)} {f : PyData → PyData}
    {rest : List PySem.Stmt} {bs' : Bs} {o : Option PyData} (F : FC hT X s₀ env) (K : CmpG prog w hT A env bs target scope cl cbs ds tb) (hsrc : SR prog w hT A X env bs iter ds) (hst : StoreAt (PvE env) env y) (hlen : ds.length ≤ 1000000)
    (helt : ∀ (C D : Addr) (d : PyData) (s₁ : Shared) (E : Value → Shared → Prop), CL cl C → d ∈ ds → Ok hT (XD X D) (cEnv scope cl C env) (tb d) s₁.heap → (∃ m, s₁.heap.Ns env.locals m) → s₁.heap.get? D ≠ none →
      wpAny (model prog w) A (eval elt (cEnv scope cl C env)) (fun v s₂ => KL env.locals s₁ s₂ ∧ Rp (XD X D) s₂.heap v (f d)) E s₁)
    (hr : SX prog w A X s₀ env ((y, .list (ds.map f)) :: bs) rest bs' o)
    (hsw : swapsWith (.ListComp elt [⟨target, iter, [], 0⟩] scope pos) (some (.Name y py)) spos.line env = pure true := by rfl) (hs : ∀ x, foldedSetIterable iter env x = pure x := by intro _; rfl) :
    SX prog w A X s₀ env bs (.Assign [.Name y py] (.ListComp elt [⟨target, iter, [], 0⟩] scope pos) spos :: rest) bs' o := by
  refine sx_step F (fun s E Q hsc k hQ => ?_) hr
  have ok := F.ok hsc k
  rw [exec_Assign_Name_used _ _ _ _ hsw]
  refine wpAny_bind (wpAny_standAt (wpAny_bind ?_))
  show wpAny _ A (do let _ ← comprehension (.ListComp elt [⟨target, iter, [], 0⟩] scope pos) scope env _ (newList []) false (eval iter env) (some (assign (.Name y py) env))) _ _ s
  refine wpAny_bind (wpAny_mono (wpAny_comprehension_free (use := some (assign (.Name y py) env)) (Q := fun _ s' => Q .next s') rfl hs K.clos K.kind K.names ?_) (fun _ s' hq => wpAny_pure (wpAny_pure hq)) fun _ _ e => e)
  refine comp_coreG (RR := fun acc C => compPost (model prog w) A E (some (assign (.Name y py) env)) (fun _ s' => Q .next s') acc C) (fun D k h => AccL X ((ds.take k).map f) D h) K hsrc ok (ao := { cls := .type "list", data := .seq #[] })
      (stepT := fun acc cenv => eval elt cenv >>= fun x => call (.builtin "list.append") [acc, x] >>= fun _ => pure ())
      (fun s Q h => wpAny_newObj_type h (by show (#[] : Array Value).size ≤ 2 ^ 24; decide)) rfl (fun _ _ _ => rfl) (fun _ _ _ => rfl) (fun _ _ _ => rfl) (fun it acc cenv => compTurn_l1 _ _ _ _ _ it acc cenv) (fun it acc cenv R s h1 h2 => codeAny_compStart_list h1 h2) ?_ ?_ ?_ ?_ ?_
  · rintro D k h ⟨ys, n, e, _⟩
    exact ⟨_, e, fun _ _ z => (nomatch z), fun _ z => (nomatch z)⟩
  · intro D h e
    exact ⟨#[], 0, e, by simpa using RpL.nil⟩
  · intro D k h h' a c k'
    exact accL_F a c k'
  · intro C D i d s₁ E' hCL hd hXD hDL hDC ok₁ kl hL acc
    have hm : d ∈ ds := List.mem_of_getElem? hd
    obtain ⟨ys, n, eD, _⟩ := id acc
    refine wpAny_bind (wpAny_mono (helt C D d s₁ E' hCL hm ok₁ hL (by rw [eD]; exact Option.some_ne_none _)) ?_ fun _ _ e => e)
    rintro v s₂ ⟨kl₂, r₂⟩
    obtain ⟨mL, hL⟩ := hL
    have acc₂ : AccL X ((ds.take i).map f) D s₂.heap := accL_F acc (kl₂.calm hL) fun o e => kl₂.get D o hDL e
    refine wpAny_bind (accL_push acc₂ ?_ r₂ fun s₃ mv hD acc₃ => wpAny_pure ⟨s₂, kl₂, mv, hD, ?_⟩)
    · simp only [List.length_map, List.length_take]; omega
    · rw [List.take_add_one, hd, List.map_append]
      exact acc₃
  · intro D C s' kl hD hC hDC ⟨m, hn⟩ acc
    rw [List.take_length] at acc
    exact store_acc (Q := fun _ s' => Q .next s') ok hst kl hC hn (accL_rp acc (ok.xi.notnone hD)) fun s'' sc mv => hQ s'' sc mv
end Mine
end
section
open PySem PySem.W PyProof.Rows
set_option maxRecDepth 100000
namespace Mine
/-- the table of a set of small numbers -/
noncomputable def tabS (ks : List Nat) (led : Bool) : SetTable := { mask := if ks.length < 5 then 7 else 31, place := ks.toArray, dummies := #[], finger := 0, led := led, moves := if ks.length < 5 then 0 else 1, plain := true }
/-- rising numbers below 8 -/
noncomputable def Sub8 (ks : List Nat) : Prop := ks.Pairwise (· < ·) ∧ ∀ k ∈ ks, k < 8
noncomputable def insS (ks : List Nat) (x : Nat) : List Nat := ks.filter (· < x) ++ x :: ks.filter (x < ·)
theorem rise_len : ∀ (l : List Nat) (lo : Nat), l.Pairwise (· < ·) → (∀ k ∈ l, lo ≤ k ∧ k < 8) → lo ≤ 8 → l.length + lo ≤ 8
  | [], lo, _, _, h => by simpa using h
  | a :: l, lo, hp, hk, _ => by
    rw [List.pairwise_cons] at hp
    have ha := hk a (.head _)
    have := rise_len l (a + 1) hp.2 (fun k hm => ⟨hp.1 k hm, (hk k (.tail _ hm)).2⟩) (by omega)
    rw [List.length_cons]; omega
theorem Sub8.len {ks : List Nat} (h : Sub8 ks) : ks.length ≤ 8 := by
  have := rise_len ks 0 h.1 (fun k hk => ⟨Nat.zero_le _, h.2 k hk⟩) (by decide)
  omega
theorem Sub8.nil : Sub8 [] := ⟨.nil, fun _ h => nomatch h⟩
/-- a rising list falls into what lies below x and the rest -/
theorem rise_cut (x : Nat) : ∀ l : List Nat, l.Pairwise (· < ·) → l.take (l.filter (· < x)).length = l.filter (· < x) ∧ l.drop (l.filter (· < x)).length = l.filter (x ≤ ·)
  | [], _ => by simp
  | a :: l, hp => by
    rw [List.pairwise_cons] at hp
    obtain ⟨i1, i2⟩ := rise_cut x l hp.2
    by_cases q : a < x
    · simp [q, i1, i2, Nat.not_le.mpr q]
    · have h1 : ∀ b ∈ l, ¬ b < x := fun b hb => by have := hp.1 b hb; omega
      have h2 : l.filter (· < x) = [] := List.filter_eq_nil_iff.mpr fun b hb => by simpa using h1 b hb
      have h3 : l.filter (x ≤ ·) = l := List.filter_eq_self.mpr fun b hb => by have := hp.1 b hb; simp; omega
      have q' : x ≤ a := by omega
      simp [q, h2, h3, q']
theorem rise_at {l : List Nat} (hp : l.Pairwise (· < ·)) (x i : Nat) (hi : i < l.length) : l[i] < x ↔ i < (l.filter (· < x)).length := by
  obtain ⟨h1, h2⟩ := rise_cut x l hp
  have hle : (l.filter (· < x)).length ≤ l.length := List.length_filter_le ..
  constructor
  · intro h
    apply Classical.byContradiction
    intro hn
    have hm : l[i] ∈ l.drop (l.filter (· < x)).length := by
      rw [List.mem_drop_iff_getElem]
      exact ⟨i - (l.filter (· < x)).length, by omega, by congr 1; omega⟩
    rw [h2, List.mem_filter, decide_eq_true_eq] at hm
    omega
  · intro h
    have hm : l[i] ∈ l.take (l.filter (· < x)).length := by
      rw [List.mem_take_iff_getElem]
      exact ⟨i, by omega, rfl⟩
    rw [h1, List.mem_filter, decide_eq_true_eq] at hm
    exact hm.2
/-- the search by halves -/
theorem below_go (xs : Array Nat) (j r n : Nat) (h : ∀ i, i < n → (xs.getD i j < j ↔ i < r)) : ∀ (fuel lo hi : Nat), lo ≤ r → r ≤ hi → hi ≤ n → hi - lo ≤ fuel → SetTable.below.go xs j fuel lo hi = r
  | 0, lo, hi, h1, h2, _, h4 => by
    unfold SetTable.below.go; omega
  | fuel + 1, lo, hi, h1, h2, h3, h4 => by
    unfold SetTable.below.go
    by_cases q : lo < hi
    · rw [if_pos q]
      have hm : (lo + hi) / 2 < n := by omega
      dsimp only
      by_cases z : xs.getD ((lo + hi) / 2) j < j
      · rw [if_pos z]
        have := (h _ hm).mp z
        exact below_go xs j r n h fuel _ _ (by omega) h2 h3 (by omega)
      · rw [if_neg z]
        have : ¬ (lo + hi) / 2 < r := fun q' => z ((h _ hm).mpr q')
        exact below_go xs j r n h fuel _ _ h1 (by omega) (by omega) (by omega)
    · rw [if_neg q]; omega
theorem below_at {ks : List Nat} {j r : Nat} (hr : r ≤ ks.length) (h : ∀ i (hi : i < ks.length), ks[i] < j ↔ i < r) : SetTable.below ks.toArray j = r := by
  unfold SetTable.below
  refine below_go _ _ _ ks.length (fun i hi => ?_) _ _ _ (Nat.zero_le _) (by simpa using hr) (by simp) (by simp)
  have : ks.toArray.getD i j = ks[i] := by simp [Array.getD, hi]
  rw [this]; exact h i hi
theorem below_S {ks : List Nat} (hp : ks.Pairwise (· < ·)) (x : Nat) : SetTable.below ks.toArray x = (ks.filter (· < x)).length :=
  below_at (List.length_filter_le ..) fun i hi => rise_at hp x i hi
theorem has_none (j : Nat) : SetTable.has #[] j = false := by
  unfold SetTable.has
  simp
theorem bits8 : ((List.range 8).all fun k => SetTable.bits (k : Int) == k) = true := by decide +kernel
theorem slot_S {ks : List Nat} {led : Bool} {x : Nat} (hx : x ∉ ks) : (tabS ks led).slot x = .empty := by
  unfold SetTable.slot
  have h1 : ((tabS ks led).place[SetTable.below (tabS ks led).place x]? == some x) = false := by
    rw [beq_eq_false_iff_ne]
    intro e
    refine hx ?_
    have := Array.mem_of_getElem? e
    simpa [tabS] using this
  have h2 : SetTable.has (tabS ks led).dummies x = false := has_none x
  dsimp only
  rw [h1, h2]; rfl
theorem free_S {ks : List Nat} {led : Bool} {x : Nat} (hx : x ∉ ks) (h8 : x < 8) : (tabS ks led).freeSlot (x : Int) = some (x, false) := by
  have hb : SetTable.bits (x : Int) = x := eq_of_beq (List.all_eq_true.mp bits8 x (List.mem_range.mpr h8))
  have hm : x % ((tabS ks led).mask + 1) = x := by
    refine Nat.mod_eq_of_lt ?_
    unfold tabS
    dsimp only
    split <;> omega
  have hf : 10 * SetTable.turns (tabS ks led).mask = (10 * SetTable.turns (tabS ks led).mask - 1) + 1 := by unfold SetTable.turns; omega
  unfold SetTable.freeSlot SetTable.probe
  rw [hf]
  unfold SetTable.probe.go SetTable.probeStart
  simp only [hb, hm, slot_S hx]
  rfl
/-- the table with x in it, before it is laid anew -/
noncomputable def tabP (ks : List Nat) (led : Bool) (x : Nat) : SetTable := { tabS ks led with place := (insS ks x).toArray }
theorem put_S {ks : List Nat} {led : Bool} {x : Nat} (hp : ks.Pairwise (· < ·)) (hx : x ∉ ks) : (tabS ks led).put x = (tabP ks led x, (ks.filter (· < x)).length) := by
  obtain ⟨h1, h2⟩ := rise_cut x ks hp
  have hb : SetTable.below (tabS ks led).place x = (ks.filter (· < x)).length := below_S hp x
  have h3 : ks.filter (x ≤ ·) = ks.filter (x < ·) := by
    refine List.filter_congr fun b hb => ?_
    have : b ≠ x := fun e => hx (e ▸ hb)
    simp; omega
  have hi : SetTable.insertAt (tabS ks led).place (ks.filter (· < x)).length x = (insS ks x).toArray := by
    apply Array.toList_inj.mp
    rw [SetTable.toList_insertAt]
    show ks.take _ ++ x :: ks.drop _ = _
    rw [h1, h2, h3]; rfl
  unfold SetTable.put
  simp only [hb, hi]
  have h2 : SetTable.has (tabS ks led).dummies x = false := has_none x
  rw [h2]; rfl
/-- five numbers laid anew -/
noncomputable def layOk (hs : List Nat) : Bool := match SetTable.layClean 31 (hs.map fun (k : Nat) => (k : Int)).toArray with
  | some owner => (((List.range 32).filterMap fun j => (owner.getD j none).map (j, ·)).map (·.1)).toArray == hs.toArray && (((List.range 32).filterMap fun j => (owner.getD j none).map (j, ·)).map (·.2)).toArray == Array.range 5
  | none => false
noncomputable def lay5 (a b : Nat) : Bool := (List.range 8).all fun c => !decide (b < c) || (List.range 8).all fun d => !decide (c < d) || (List.range 8).all fun e => !decide (d < e) || layOk [a, b, c, d, e]
theorem lay0 : ((List.range 8).all fun b => !decide (0 < b) || lay5 0 b) = true := by decide +kernel
theorem lay1 : ((List.range 4).all fun a => (List.range 8).all fun b => !decide (a + 1 < b) || lay5 (a + 1) b) = true := by decide +kernel
theorem lay5_ok {a b c d e : Nat} (hab : a < b) (hbc : b < c) (hcd : c < d) (hde : d < e) (he : e < 8) : layOk [a, b, c, d, e] = true := by
  have h : lay5 a b = true := by
    cases a with
    | zero =>
      have h0 := List.all_eq_true.mp lay0 b (List.mem_range.mpr (by omega))
      rw [decide_eq_true hab] at h0
      exact h0
    | succ a =>
      have h0 := List.all_eq_true.mp (List.all_eq_true.mp lay1 a (List.mem_range.mpr (by omega))) b (List.mem_range.mpr (by omega))
      rw [decide_eq_true hab] at h0
      exact h0
  unfold lay5 at h
  have h1 := List.all_eq_true.mp h c (List.mem_range.mpr (by omega))
  rw [Bool.or_eq_true, decide_eq_true hbc] at h1
  have h2 := List.all_eq_true.mp (h1.resolve_left (by decide)) d (List.mem_range.mpr (by omega))
  rw [Bool.or_eq_true, decide_eq_true hcd] at h2
  have h3 := List.all_eq_true.mp (h2.resolve_left (by decide)) e (List.mem_range.mpr (by omega))
  rw [Bool.or_eq_true, decide_eq_true hde] at h3
  exact h3.resolve_left (by decide)
theorem lay_S {hs : List Nat} (h : Sub8 hs) (hl : hs.length = 5) : layOk hs = true := by
  match hs, hl with
  | [a, b, c, d, e], _ =>
    obtain ⟨hp, h8⟩ := h
    simp only [List.pairwise_cons] at hp
    exact lay5_ok (hp.1 b (by simp)) (hp.2.1 c (by simp)) (hp.2.2.1 d (by simp)) (hp.2.2.2.1 e (by simp)) (h8 e (by simp))
theorem relaid_S {ks : List Nat} {led : Bool} {x : Nat} (h : Sub8 (insS ks x)) (hl : ks.length = 4) (hi : (insS ks x).length = 5) :
    (tabP ks led x).relaid ((insS ks x).map fun (k : Nat) => (k : Int)).toArray (SetTable.grown 5) = some (tabS (insS ks x) led, Array.range 5) := by
  have hok := lay_S h hi
  unfold layOk at hok
  unfold SetTable.relaid SetTable.laid
  have e1 : SetTable.sizeAbove (SetTable.grown 5) - 1 = 31 := by decide +kernel
  rw [e1]
  split at hok
  · rename_i owner ho
    simp only [Bool.and_eq_true, beq_iff_eq] at hok
    rw [ho]
    simp only [Option.bind_eq_bind, Option.bind_some, Option.pure_def, Option.some.injEq]
    rw [hok.1, hok.2]
    have e2 : (tabP ks led x).movedTo 31 = 1 := by
      unfold SetTable.movedTo tabP tabS
      simp [hl]
    rw [e2]
    unfold tabS
    rw [hi]
    rfl
  · cases hok
theorem insS_sub {ks : List Nat} {x : Nat} (h : Sub8 ks) (hx : x ∉ ks) (h8 : x < 8) : Sub8 (insS ks x) ∧ (insS ks x).length = ks.length + 1 := by
  obtain ⟨h1, h2⟩ := rise_cut x ks h.1
  have h3 : ks.filter (x ≤ ·) = ks.filter (x < ·) := by
    refine List.filter_congr fun b hb => ?_
    have : b ≠ x := fun e => hx (e ▸ hb)
    simp; omega
  refine ⟨⟨?_, ?_⟩, ?_⟩
  · unfold insS
    rw [List.pairwise_append, List.pairwise_cons]
    refine ⟨h.1.filter _, ⟨fun b hb => ?_, h.1.filter _⟩, fun a ha b hb => ?_⟩
    · have := (List.mem_filter.mp hb).2
      simpa using this
    · have ha' := (List.mem_filter.mp ha).2
      simp only [decide_eq_true_eq] at ha'
      rcases List.mem_cons.mp hb with rfl | hb
      · exact ha'
      · have := (List.mem_filter.mp hb).2
        simp only [decide_eq_true_eq] at this
        omega
  · intro k hk
    unfold insS at hk
    rw [List.mem_append, List.mem_cons, List.mem_filter, List.mem_filter] at hk
    rcases hk with hk | rfl | hk
    · exact h.2 k hk.1
    · exact h8
    · exact h.2 k hk.1
  · unfold insS
    have := congrArg List.length (List.take_append_drop (ks.filter (· < x)).length ks)
    rw [h1, h2, h3, List.length_append] at this
    rw [List.length_append, List.length_cons]; omega
theorem fits_S {ks : List Nat} {led : Bool} (h : ks.length ≤ 8) : (tabS ks led).fits ks.length = true := by
  unfold SetTable.fits SetTable.fill tabS
  simp only [List.size_toArray, beq_self_eq_true, Bool.true_and, decide_eq_true_eq]
  show ks.length + 0 ≤ _
  split <;> omega
theorem fits_P {ks : List Nat} {led : Bool} {x : Nat} (h : (insS ks x).length = ks.length + 1) (h8 : ks.length < 8) : (tabP ks led x).fits (ks.length + 1) = true := by
  unfold SetTable.fits SetTable.fill tabP tabS
  simp only [List.size_toArray, h, beq_self_eq_true, Bool.true_and, decide_eq_true_eq]
  show ks.length + 1 + 0 ≤ _
  split <;> omega
theorem full_P {ks : List Nat} {led : Bool} {x : Nat} (h : (insS ks x).length = ks.length + 1) (h8 : ks.length < 8) : (tabP ks led x).tooFull = decide (ks.length = 4) := by
  unfold SetTable.tooFull SetTable.fill tabP tabS
  simp only [List.size_toArray, h]
  rw [Bool.eq_iff_iff, decide_eq_true_eq, decide_eq_true_eq]
  show (ks.length + 1 + 0) * 5 ≥ _ ↔ _
  split <;> omega
end Mine
end
section
open PySem PySem.W PyProof.Rows
set_option maxRecDepth 100000
namespace Mine
variable {prog : Program} {w : World} {A : Around} {E : Value → Shared → Prop} {s : Shared}
/-- the elements of a set of small numbers -/
noncomputable def EsI (es : List (Int × Value)) (ks : List Nat) : Prop := es.map (·.1) = ks.map (fun (k : Nat) => (k : Int)) ∧ ∀ e ∈ es, ∃ t, e.2 = .int e.1 t
theorem EsI.len {es : List (Int × Value)} {ks : List Nat} (h : EsI es ks) : es.length = ks.length := by
  have := congrArg List.length h.1
  simpa using this
noncomputable def setObj (es : Array (Int × Value)) (ep : Nat) (ks : List Nat) (led : Bool) : Obj := { cls := .type "set", data := .set es ep (tabS ks led) }
noncomputable def SetAt (h : Heap) (a : Addr) (led : Bool) (ks : List Nat) : Prop := ∃ es ep, h.get? a = some (setObj es ep ks led) ∧ EsI es.toList ks
noncomputable def addS (ks : List Nat) (x : Nat) : List Nat := if ks.contains x then ks else insS ks x
theorem hash8 : ((List.range 8).all fun k => hashInt (k : Int) == (k : Int)) = true := by decide +kernel
theorem covers8 : ((List.range 10).all fun n => coversAll (Array.range n) n) = true := by decide +kernel
theorem EsI.elems {es : List (Int × Value)} {ks : List Nat} (h : EsI es ks) (hk : ∀ k ∈ ks, k < 8) : ElemsOf (intKind prog w) es := fun e he => by
  obtain ⟨t, ht⟩ := h.2 e he
  have : e.1 ∈ es.map (·.1) := List.mem_map.mpr ⟨e, he, rfl⟩
  rw [h.1] at this
  obtain ⟨k, hk', e1⟩ := List.mem_map.mp this
  refine ⟨⟨e.1, by rw [ht]; exact intKind_is _ _ _ _, ?_⟩, by rw [ht]; rfl⟩
  rw [← e1]
  exact (eq_of_beq (List.all_eq_true.mp hash8 k (List.mem_range.mpr (hk k hk')))).symm
theorem insS_take (ks : List Nat) (x : Nat) (es : List (Int × Value)) (v : Value) (t : Tok) (hv : v = .int (x : Int) t) (h : EsI es ks) (hs : ks.Pairwise (· < ·)) (hx : x ∉ ks) :
    EsI (es.take (ks.filter (· < x)).length ++ ((x : Int), v) :: es.drop (ks.filter (· < x)).length) (insS ks x) := by
  obtain ⟨k1, k2⟩ := rise_cut x ks hs
  have h3 : ks.filter (x ≤ ·) = ks.filter (x < ·) := by
    refine List.filter_congr fun b hb => ?_
    have : b ≠ x := fun e => hx (e ▸ hb)
    simp; omega
  refine ⟨?_, fun e he => ?_⟩
  · rw [List.map_append, List.map_cons, List.map_take, List.map_drop, h.1, ← List.map_take, ← List.map_drop, k1, k2, h3]
    unfold insS
    rw [List.map_append, List.map_cons]
  · rw [List.mem_append, List.mem_cons] at he
    rcases he with he | rfl | he
    · exact h.2 e (List.mem_of_mem_take he)
    · exact ⟨t, hv⟩
    · exact h.2 e (List.mem_of_mem_drop he)
theorem addS_sub {ks : List Nat} {x : Nat} (h : Sub8 ks) (h8 : x < 8) : Sub8 (addS ks x) := by
  unfold addS
  split
  · exact h
  · rename_i hc
    exact (insS_sub h (fun q => hc (List.contains_iff_mem.mpr q)) h8).1
theorem sub_facts {ks : List Nat} (h : Sub8 ks) (led : Bool) : ks.length ≤ 8 ∧ (tabS ks led).fits ks.length = true ∧ (∀ k ∈ ks, k < 8) ∧ ks.Pairwise (· < ·) := ⟨h.len, fits_S h.len, h.2, h.1⟩
theorem idx_none {es : List (Int × Value)} {ks : List Nat} {k : Nat} (h : EsI es ks) (hk : ks.contains k = false) : es.findIdx? (fun e => (intKind prog w).is (k : Int) e.2) = none := by
  rw [List.findIdx?_eq_none_iff]
  intro e he
  obtain ⟨t, ht⟩ := h.2 e he
  rw [ht]
  cases hq : (intKind prog w).is (k : Int) (Value.int e.1 t) with
  | false => rfl
  | true =>
    exfalso
    have e1 : e.1 = (k : Int) := by simpa [intKind, Value.isInt] using hq
    have : e.1 ∈ es.map (·.1) := List.mem_map.mpr ⟨e, he, rfl⟩
    rw [h.1, e1] at this
    obtain ⟨k', hk', e2⟩ := List.mem_map.mp this
    have : k' = k := Int.ofNat_inj.mp e2
    subst this
    rw [List.contains_iff_mem.mpr hk'] at hk; cases hk
theorem idx_some {es : List (Int × Value)} {ks : List Nat} {k : Nat} (h : EsI es ks) (hk : ks.contains k = true) : ∃ j, es.findIdx? (fun e => (intKind prog w).is (k : Int) e.2) = some j := by
  cases hq : es.findIdx? (fun e => (intKind prog w).is (k : Int) e.2) with
  | some j => exact ⟨j, rfl⟩
  | none =>
    exfalso
    rw [List.findIdx?_eq_none_iff] at hq
    have : (k : Int) ∈ es.map (·.1) := by
      rw [h.1]; exact List.mem_map.mpr ⟨k, List.contains_iff_mem.mp hk, rfl⟩
    obtain ⟨e, he, e1⟩ := List.mem_map.mp this
    obtain ⟨t, ht⟩ := h.2 e he
    have := hq e he
    rw [ht, e1, intKind_is] at this
    cases this
theorem store_set {a : Addr} {es es' : Array (Int × Value)} {ep : Nat} {t t' : SetTable} {Q : Unit → Shared → Prop} (ho : s.heap.get? a = some { cls := .type "set", data := .set es ep t }) (hz : es'.size < scanBound)
    (h : ∀ h', Heap.SameBut a s.heap h' → h'.get? a = some { cls := .type "set", data := .set es' (ep + 1) t' } → Q () { s with heap := h' }) : wpAny (model prog w) A (storeSet a es' t') Q E s := by
  refine wpAny_storeSet_of ho rfl (h _ (Heap.SameBut.update s.heap a _) ?_) (fits_of_scanBound hz)
  exact Heap.get?_update_self (Obj.putSet es' t') ho rfl
theorem lay_new {ks : List Nat} {led : Bool} {k : Nat} {es : Array (Int × Value)} {v : Value} (hks : Sub8 ks) (hk : k < 8) (hc : ks.contains k = false) (he : EsI es.toList ks) :
    ∃ t1, layNew (tabS ks led) es (k : Int) v = (SetTable.insertAt es (ks.filter (· < k)).length ((k : Int), v), t1, false, false) ∧ t1.fits (ks.length + 1) = true ∧ t1.plain = true ∧
      (if t1.tooFull = true then t1.relaid ((insS ks k).map fun (k : Nat) => (k : Int)).toArray (SetTable.grown (ks.length + 1)) = some (tabS (insS ks k) led, Array.range (ks.length + 1)) ∧ (tabS (insS ks k) led).fits (ks.length + 1) = true
       else t1 = tabS (insS ks k) led) := by
  have hx : k ∉ ks := fun q => by rw [List.contains_iff_mem.mpr q] at hc; cases hc
  obtain ⟨hin, hil⟩ := insS_sub hks hx hk
  have hl8 : ks.length < 8 := by have := hin.len; omega
  have hlen := he.len
  rw [Array.length_toList] at hlen
  have hpf := fits_P (led := led) hil hl8
  refine ⟨tabP ks led k, ?_, hpf, rfl, ?_⟩
  · unfold layNew
    rw [free_S hx hk]
    dsimp only
    rw [put_S hks.1 hx]
    dsimp only
    have hsz : (SetTable.insertAt es (ks.filter (· < k)).length ((k : Int), v)).size = ks.length + 1 := by
      have := (SetTable.insertAt_perm es (ks.filter (· < k)).length ((k : Int), v)).length_eq
      simp only [Array.length_toList, Array.size_push] at this
      omega
    rw [hsz]
    unfold SetTable.orStandIn
    rw [if_pos hpf, hpf]; rfl
  · rw [full_P hil hl8]
    by_cases h4 : ks.length = 4
    · rw [if_pos (decide_eq_true h4), h4]
      refine ⟨relaid_S hin h4 (by rw [hil, h4]), ?_⟩
      have := fits_S (led := led) hin.len
      rw [hil, h4] at this
      exact this
    · rw [if_neg (by simpa using h4)]
      unfold tabP tabS
      have : (ks.length < 5) = ((insS ks k).length < 5) := by rw [hil, eq_iff_iff]; omega
      simp only [this]
/-- set.add of a small number -/
theorem set_add {a : Addr} {led : Bool} {ks : List Nat} {k : Nat} {t : Tok} {Q : Value → Shared → Prop} (hS : SetAt s.heap a led ks) (hks : Sub8 ks) (hk : k < 8)
    (h : ∀ h', Heap.SameBut a s.heap h' → SetAt h' a led (addS ks k) → Q .none { s with heap := h', toks := s.toks + 1 }) : wpAny (model prog w) A (call (.builtin "set.add") [.ref a, .int (k : Int) t]) Q E s := by
  obtain ⟨es, ep, ho, he⟩ := hS
  obtain ⟨hl8, hfit, hlt, hrise⟩ := sub_facts hks led
  have hlen := he.len
  rw [Array.length_toList] at hlen
  have hfit' : (tabS ks led).fits es.size = true := by rw [hlen]; exact hfit
  have hel : ElemsOf (intKind prog w) es.toList := he.elems hlt
  have hb : es.size < scanBound := by rw [hlen]; show _ < 4096; omega
  refine wpAny_call_entry F.slot_set_add ⟨_, ho, rfl⟩ F.entry_set_add ?_ (F.args_set_add_2 _ _)
  unfold Builtin.«set.add» Builtin.Frozenset.oneOther
  simp only [List.isEmpty_nil, bind_assoc]
  unfold Builtin.Frozenset.addrOf setAdd
  refine wpAny_bind (wpAny_pure ?_)
  try dsimp only
  refine wpAny_bind (wpAny_pure ?_)
  try dsimp only
  refine wpAny_bind ?_
  refine wpAny_holding ?_
  refine wpAny_bind ((intKind prog w).pyHash (k := (k : Int)) (intKind_is _ _ _ _) ?_)
  have hh : (intKind prog w).hash (k : Int) = (k : Int) := eq_of_beq (List.all_eq_true.mp hash8 k (List.mem_range.mpr hk))
  unfold setAddHashed setAddHashedIn
  refine wpAny_holding (wpAny_bind (wpAny_setState_of (s := { s with toks := s.toks + 1 }) ho rfl hfit' ?_))
  dsimp only
  rw [byScan_of (knd := intKind prog w) (x := .int (k : Int) t) rfl hb hel]
  simp only [↓reduceIte]
  unfold setAddByScan
  refine wpAny_bind ?_
  refine wpAny_bind (wpAny_rule ?_)
  refine wpAny_bind (wpAny_setScan_of (knd := intKind prog w) (intKind_is _ _ _ _) ho rfl hfit' hel ?_)
  have hgw : ∀ (b : Bool) {s₁ : Shared} {Q' : Unit → Shared → Prop}, Q' () s₁ → wpAny (model prog w) A.in1 (match b with | true => rule "set.scan.the-table-gave-way" | false => pure ()) Q' E s₁ :=
    fun b s₁ Q' hq => by cases b <;> first | exact wpAny_pure hq | exact wpAny_rule hq
  cases hc : ks.contains k with
  | true =>
    obtain ⟨j, hj⟩ := idx_some (prog := prog) (w := w) he hc
    rw [hj]
    dsimp only
    refine wpAny_pure (wpAny_pure ?_)
    have := h s.heap (Heap.SameBut.refl a s.heap) (by unfold addS; rw [hc, if_pos rfl]; exact ⟨es, ep, ho, he⟩)
    exact wpAny_pure ⟨_, rfl, this⟩
  | false =>
    rw [idx_none (prog := prog) (w := w) he hc]
    dsimp only
    obtain ⟨t1, hL, hf1, hpl, hend⟩ := lay_new (led := led) (v := .int (k : Int) t) hks hk hc he
    rw [hh, hL]
    dsimp only
    refine wpAny_bind (wpAny_pure ?_)
    rw [if_pos hpl]
    refine wpAny_bind ?_
    rw [hashByValue_scannable 8 rfl]
    refine wpAny_pure ?_
    rw [show plainKind (.int (k : Int) t) = true from rfl]
    simp only [↓reduceIte, Bool.not_false, Bool.true_and]
    have he1 : EsI (SetTable.insertAt es (ks.filter (· < k)).length ((k : Int), Value.int (k : Int) t)).toList (insS ks k) := by
      rw [SetTable.toList_insertAt]
      exact insS_take ks k es.toList _ t rfl he hrise fun q => by rw [List.contains_iff_mem.mpr q] at hc; cases hc
    have hins : (insS ks k).length = ks.length + 1 := by
      have h1 := he1.len
      have h2 := (SetTable.insertAt_perm es (ks.filter (· < k)).length ((k : Int), Value.int (k : Int) t)).length_eq
      rw [h1, Array.toList_push, List.length_append, he.len, List.length_singleton] at h2
      exact h2
    generalize SetTable.insertAt es (ks.filter (· < k)).length ((k : Int), Value.int (k : Int) t) = es1 at he1 ⊢
    have hsz1 : es1.size = ks.length + 1 := by
      have := he1.len
      rw [Array.length_toList, hins] at this
      exact this
    have hb1 : es1.size < scanBound := by rw [hsz1]; show _ < 4096; omega
    refine wpAny_bind (store_set (s := { s with toks := s.toks + 1 }) ho hb1 fun h1 hs1 ho1 => ?_)
    have hin : Sub8 (insS ks k) ∧ addS ks k = insS ks k := by
      have e : addS ks k = insS ks k := by unfold addS; rw [hc]; rfl
      exact ⟨e ▸ addS_sub hks hk, e⟩
    have hkeys : es1.map (·.1) = ((insS ks k).map fun (k : Nat) => (k : Int)).toArray := by
      apply Array.toList_inj.mp
      rw [Array.toList_map, he1.1]
    cases hf : t1.tooFull with
    | false =>
      rw [if_neg Bool.false_ne_true]
      rw [hf, if_neg (by decide)] at hend
      subst hend
      have := h h1 hs1 (by rw [hin.2]; exact ⟨es1, ep + 1, ho1, he1⟩)
      exact wpAny_pure (wpAny_pure (wpAny_pure ⟨_, rfl, this⟩))
    | true =>
      rw [if_pos rfl]
      rw [hf, if_pos rfl] at hend
      have hr : relayAll t1 es1 (SetTable.grown es1.size) = (es1, tabS (insS ks k) led, false) := by
        unfold relayAll
        rw [hkeys, hsz1, hend.1]
        dsimp only
        have hcov : coversAll (Array.range (ks.length + 1)) (ks.length + 1) = true := List.all_eq_true.mp covers8 _ (List.mem_range.mpr (by omega))
        have hfm : (Array.range (ks.length + 1)).filterMap (es1[·]?) = es1 := by
          apply Array.toList_inj.mp
          rw [Array.toList_filterMap, ← hsz1, Array.toList_range]
          exact filterMap_getElem?_range es1
        rw [hfm, hsz1, hcov, hend.2]
        rfl
      rw [hr]
      refine wpAny_bind (wpAny_pure ?_)
      refine wpAny_bind (store_set (s := { s with heap := h1, toks := s.toks + 1 }) ho1 hb1 fun h2 hs2 ho2 => ?_)
      have := h h2 (hs1.trans hs2) (by rw [hin.2]; exact ⟨es1, ep + 1 + 1, ho2, he1⟩)
      exact wpAny_pure (wpAny_pure (wpAny_pure ⟨_, rfl, this⟩))
end Mine
end
section
open PySem PySem.W PyProof.Rows
set_option maxRecDepth 100000
namespace Mine
variable {prog : Program} {w : World} {A : Around} {E : Value → Shared → Prop} {s : Shared}
theorem slot_setit_next : Slot "set_iterator" "__next__" "set_iterator.__next__" :=
  .of (owner := "set_iterator") (n := "__next__") (by rw [typeLookup_type, builtinLookup_eq_fast]; kernel_rfl) (by decide +kernel) (by decide +kernel) (by decide +kernel)
    (by first | exact .inl (by decide +kernel) | exact .inr (by decide +kernel)) (by rw [isSubtype_type]; kernel_rfl)
theorem entry_setit_next : entryFor table "set_iterator.__next__" = some Builtin.«set_iterator.__next__» := entryFor_of_fast (by kernel_rfl)
theorem args_setit_next (a : Value) : argsOk "set_iterator.__next__" ⟨[a], []⟩ := by unfold argsOk; kernel_rfl
theorem slot_setit_iter : Slot "set_iterator" "__iter__" "set_iterator.__iter__" :=
  .of (owner := "set_iterator") (n := "__iter__") (by rw [typeLookup_type, builtinLookup_eq_fast]; kernel_rfl) (by decide +kernel) (by decide +kernel) (by decide +kernel)
    (by first | exact .inl (by decide +kernel) | exact .inr (by decide +kernel)) (by rw [isSubtype_type]; kernel_rfl)
theorem entry_setit_iter : entryFor table "set_iterator.__iter__" = some Builtin.«dict_keyiterator.__iter__» := entryFor_alias (id' := "dict_keyiterator.__iter__") (by kernel_rfl) rfl (by decide +kernel) (by kernel_rfl)
theorem args_setit_iter (a : Value) : argsOk "set_iterator.__iter__" ⟨[a], []⟩ := by unfold argsOk; kernel_rfl
theorem entry_set_iter : entryFor table "set.__iter__" = some Builtin.«frozenset.__iter__» := entryFor_alias (id' := "frozenset.__iter__") (by kernel_rfl) rfl (by decide +kernel) (by kernel_rfl)
/-- the order in which a plain set is walked -/
noncomputable def byText (w : World) : Bool := w.params.followText "set-order"
noncomputable def ordS (w : World) (a : Addr) (ep : Nat) (es : Array (Int × Value)) : Array (Int × Value) := if byText w = true then pickOrder (w.params.setOrder a ep) es else es
theorem pick_go {α : Type} (next : Nat → Nat) : ∀ (fuel k : Nat) (left : List α) (out : Array α), left.length = fuel → (pickOrder.go next fuel k left out).toList.Perm (out.toList ++ left)
  | 0, k, left, out, h => by
    have : left = [] := List.length_eq_zero_iff.mp h
    subst this
    unfold pickOrder.go
    simp
  | fuel + 1, k, left, out, h => by
    unfold pickOrder.go
    have hlt : next k % left.length < left.length := Nat.mod_lt _ (by omega)
    rw [List.getElem?_eq_getElem hlt]
    dsimp only
    have hl : (left.eraseIdx (next k % left.length)).length = fuel := by rw [List.length_eraseIdx_of_lt hlt]; omega
    refine (pick_go next fuel (k + 1) _ _ hl).trans ?_
    rw [Array.toList_push, List.append_assoc]
    refine List.Perm.append_left _ ?_
    generalize next k % left.length = n at hlt
    have e1 : left = left.take n ++ left[n] :: left.drop (n + 1) := by rw [← List.drop_eq_getElem_cons hlt, List.take_append_drop]
    rw [List.eraseIdx_eq_take_drop_succ]
    refine List.Perm.trans ?_ (List.Perm.of_eq e1.symm)
    show (left[n] :: (left.take n ++ left.drop (n + 1))).Perm _
    exact List.perm_middle.symm
theorem pick_perm {α : Type} (next : Nat → Nat) (xs : Array α) : (pickOrder next xs).toList.Perm xs.toList := by
  unfold pickOrder
  simpa using pick_go next xs.size 0 xs.toList #[] (by simp)
theorem ordS_perm (w : World) (a : Addr) (ep : Nat) (es : Array (Int × Value)) : (ordS w a ep es).toList.Perm es.toList := by
  unfold ordS
  split
  · exact pick_perm _ _
  · exact .rfl
theorem byText_at {M : Model} {Q : Bool → Shared → Prop} (h : Q (byText M.w) s) : wpAny M A setsByText Q E s := by
  unfold setsByText
  exact wpAny_bind (wpAny_askSetting (wpAny_pure h))
noncomputable def slotOf (w : World) (ks : List Nat) (i : Nat) : Nat := if byText w = true then 0 else if i = 0 then 0 else ks.getD (i - 1) 0 + 1
theorem below_i {ks : List Nat} (h : Sub8 ks) (i : Nat) (hi : i ≤ ks.length) : SetTable.below ks.toArray (if i = 0 then 0 else ks.getD (i - 1) 0 + 1) = i := by
  refine below_at hi fun j hj => ?_
  by_cases h0 : i = 0
  · subst h0; simp
  · rw [if_neg h0, List.getD_eq_getElem?_getD, List.getElem?_eq_getElem (by omega), Option.getD_some]
    have hp := List.pairwise_iff_getElem.mp h.1
    constructor
    · intro q
      apply Classical.byContradiction
      intro hn
      have := hp (i - 1) j (by omega) hj (by omega)
      omega
    · intro q
      by_cases e : j = i - 1
      · subst e; omega
      · have := hp j (i - 1) hj (by omega) (by omega)
        omega
structure SetN (w : World) (h : Heap) (a : Addr) (ks : List Nat) (es : Array (Int × Value)) (ep : Nat) : Prop where
  get : h.get? a = some (setObj es ep ks (!byText w))
  els : EsI es.toList ks
theorem SetN.at {h h' : Heap} {a : Addr} {ks : List Nat} {es : Array (Int × Value)} {ep : Nat} (x : SetN w h a ks es ep) (e : ∀ o, h.get? a = some o → h'.get? a = some o) : SetN w h' a ks es ep := ⟨e _ x.get, x.els⟩
theorem SetN.size {h : Heap} {a : Addr} {ks : List Nat} {es : Array (Int × Value)} {ep : Nat} (x : SetN w h a ks es ep) : es.size = ks.length := by
  have := x.els.len
  rwa [Array.length_toList] at this
theorem SetN.fits {h : Heap} {a : Addr} {ks : List Nat} {es : Array (Int × Value)} {ep : Nat} (x : SetN w h a ks es ep) (hks : Sub8 ks) : (tabS ks (!byText w)).fits es.size = true := by
  rw [x.size]; exact (sub_facts hks _).2.1
theorem setWalk_at {a : Addr} {ks : List Nat} {es : Array (Int × Value)} {ep : Nat} {Q : Array (Int × Value) → Shared → Prop} (x : SetN w s.heap a ks es ep) (hks : Sub8 ks) (hb : byText w = true) (h : Q (ordS w a ep es) s) : wpAny (model prog w) A (setWalk a) Q E s := by
  unfold setWalk
  refine wpAny_bind (wpAny_setState_of x.get rfl (x.fits hks) ?_)
  dsimp only
  refine wpAny_bind (byText_at ?_)
  show wpAny _ _ (if byText w = true then _ else _) _ _ _
  rw [if_pos hb]
  refine wpAny_bind (wpAny_askSetting (wpAny_pure ?_))
  have : ordS w a ep es = pickOrder (w.params.setOrder a ep) es := by unfold ordS; rw [if_pos hb]
  rw [this] at h
  exact h
theorem setNext_at {a : Addr} {ks : List Nat} {es : Array (Int × Value)} {ep i : Nat} {Q : Option (Value × Nat) → Shared → Prop} (x : SetN w s.heap a ks es ep) (hks : Sub8 ks) (hi : i ≤ ks.length)
    (h : Q (((ordS w a ep es)[i]?).map fun e => (e.2, slotOf w ks (i + 1))) s) : wpAny (model prog w) A (setNext a (slotOf w ks i) i ep) Q E s := by
  unfold setNext
  refine wpAny_bind (wpAny_setState_of x.get rfl (x.fits hks) ?_)
  dsimp only
  refine wpAny_bind (byText_at ?_)
  show wpAny _ _ (if byText w = true then _ else _) _ _ _
  by_cases hb : byText w = true
  · rw [if_pos hb]
    rw [if_neg (by simp)]
    refine wpAny_bind (setWalk_at x hks hb (wpAny_pure ?_))
    have e : slotOf w ks i = slotOf w ks (i + 1) := by unfold slotOf; rw [if_pos hb, if_pos hb]
    rw [e]
    exact h
  · rw [if_neg hb]
    have hbf : byText w = false := by simpa using hb
    refine wpAny_ite_split (fun hab => absurd hab Bool.false_ne_true) (fun _ => ?_)
    refine wpAny_bind (wpAny_ite_split (fun hab => absurd hab (by rw [show (tabS ks !byText w).led = !byText w from rfl, hbf]; exact Bool.false_ne_true)) (fun _ => wpAny_pure ?_))
    have hbel : SetTable.below (tabS ks !byText w).place (slotOf w ks i) = i := by
      unfold slotOf
      rw [if_neg hb]
      exact below_i hks i hi
    rw [hbel]
    have ho : ordS w a ep es = es := by unfold ordS; rw [if_neg hb]
    rw [ho] at h
    refine wpAny_pure ?_
    have hpl : (tabS ks !byText w).place[i]? = ks[i]? := by simp [tabS]
    rw [hpl]
    by_cases hlt : i < ks.length
    · have hlt' : i < es.size := by rw [x.size]; exact hlt
      rw [Array.getElem?_eq_getElem hlt'] at h ⊢
      rw [List.getElem?_eq_getElem hlt]
      have : slotOf w ks (i + 1) = ks[i] + 1 := by
        unfold slotOf
        rw [if_neg hb, if_neg (by omega), Nat.add_sub_cancel, List.getD_eq_getElem?_getD, List.getElem?_eq_getElem hlt]; rfl
      rw [this] at h
      exact h
    · have : es[i]? = none := Array.getElem?_eq_none (by rw [x.size]; omega)
      rw [this] at h ⊢
      exact h
/-- the set's iterator at i -/
noncomputable def IsSetIt (w : World) (h : Heap) (it a : Addr) (ks : List Nat) (ep i : Nat) : Prop := h.get? it = some { cls := .type "set_iterator", data := .fields #[rawInt (slotOf w ks i), rawInt i, .ref a, rawInt ks.length, rawInt ep] }
theorem slot0_eq (w : World) (ks : List Nat) : slotOf w ks 0 = 0 := by unfold slotOf; split <;> rfl
theorem iter_set {a : Addr} {ks : List Nat} {es : Array (Int × Value)} {ep : Nat} {Q : Value → Shared → Prop} (x : SetN w s.heap a ks es ep) (hks : Sub8 ks)
    (h : Q (.ref s.heap.objs.size) { s with heap := s.heap.push { cls := .type "set_iterator", data := .fields #[rawInt (slotOf w ks 0), rawInt 0, .ref a, rawInt ks.length, rawInt ep] } }) : wpAny (model prog w) A (pyIter (.ref a)) Q E s := by
  have hT : s.TypeIs (.ref a) "set" := ⟨_, x.get, rfl⟩
  refine wpAny_pyIter_slot hT F.slot_set_iter (wpAny_call_entry F.slot_set_iter hT entry_set_iter ?_ (F.args_set_iter_1 _))
  unfold Builtin.«frozenset.__iter__» Builtin.Frozenset.slot0 slotArgs
  simp only [List.isEmpty_nil, Bool.not_true, Bool.false_eq_true, ↓reduceIte, bind_assoc, List.length_nil, bne_self_eq_false]
  unfold Builtin.Frozenset.addrOf Builtin.Frozenset.sizeOf
  refine wpAny_bind (wpAny_pure ?_)
  try dsimp only
  refine wpAny_bind (wpAny_pure ?_)
  refine wpAny_bind (wpAny_bind (wpAny_setEntries_of x.get rfl (x.fits hks) (wpAny_pure ?_)))
  unfold setDrawn
  refine wpAny_bind (wpAny_bind (wpAny_setState_of x.get rfl (x.fits hks) ?_))
  refine wpAny_bind (byText_at (wpAny_pure ?_))
  refine wpAny_ite_split (fun hab => absurd hab (by show ¬ ((!byText w && false) = true); rw [Bool.and_false]; exact Bool.false_ne_true)) (fun _ => ?_)
  refine wpAny_bind (wpAny_pure ?_)
  refine wpAny_bind (wpAny_setEpoch_of x.get rfl (x.fits hks) ?_)
  refine wpAny_bind (wpAny_newObj_type (wpAny_pure ⟨_, rfl, "set_iterator", _, ⟨_, Heap.get?_push_size _ rfl, rfl⟩, slot_setit_next.lookup, ?_⟩))
  rw [slot0_eq] at h
  rw [x.size]
  exact h
theorem IsSetIt.typeIs {it a : Addr} {ks : List Nat} {ep i : Nat} (x : IsSetIt w s.heap it a ks ep i) : s.TypeIs (.ref it) "set_iterator" := ⟨_, x, rfl⟩
theorem next_set {it a : Addr} {ks : List Nat} {es : Array (Int × Value)} {ep i : Nat} {e : Int × Value} {Q : Option Value → Shared → Prop} (hit : IsSetIt w s.heap it a ks ep i) (x : SetN w s.heap a ks es ep) (hks : Sub8 ks) (he : (ordS w a ep es)[i]? = some e)
    (h : ∀ h', IsSetIt w h' it a ks ep (i + 1) → Heap.SameBut it s.heap h' → Q (some e.2) { s with heap := h' }) : wpAny (model prog w) A (pyNext (.ref it)) Q E s := by
  have hi : i < ks.length := by
    have h1 := (Array.getElem?_eq_some_iff.mp he).1
    have h2 := (ordS_perm w a ep es).length_eq
    rw [Array.length_toList, Array.length_toList, x.size] at h2
    omega
  unfold pyNext
  refine wpAny_bind (wpAny_attempt (wpAny_callSpecial?_slot (name := Str.ofString "__next__") hit.typeIs slot_setit_next (wpAny_call_entry slot_setit_next hit.typeIs entry_setit_next ?_ (args_setit_next _))))
  unfold Builtin.«set_iterator.__next__»
  refine wpAny_bind (wpAny_pure ?_)
  refine wpAny_bind (wpAny_fieldsOf hit rfl ?_)
  dsimp only [rawInt]
  refine wpAny_bind (wpAny_setEntries_of x.get rfl (x.fits hks) ?_)
  rw [if_neg (by rw [x.size]; simp)]
  refine wpAny_bind ?_
  simp only [Int.toNat_natCast]
  refine setNext_at x hks (Nat.le_of_lt hi) ?_
  rw [he]
  dsimp only [Option.map_some]
  refine wpAny_bind (wpAny_setField hit rfl (by simp) ?_)
  have hit1 := Heap.get?_update_self (Obj.mapFields (·.setIfInBounds 0 (rawInt (slotOf w ks (i + 1))))) hit rfl
  refine wpAny_bind (wpAny_setField hit1 rfl (by simp) ?_)
  have hit2 := Heap.get?_update_self (Obj.mapFields (·.setIfInBounds 1 (rawInt ((i : Int) + 1)))) hit1 rfl
  exact wpAny_pure ⟨_, rfl, wpAny_pure (h _ hit2 ((Heap.SameBut.update ..).trans (Heap.SameBut.update ..)))⟩
theorem next_set_end {it a : Addr} {ks : List Nat} {es : Array (Int × Value)} {ep i : Nat} {Q : Option Value → Shared → Prop} (hh : A.handled = none) (hit : IsSetIt w s.heap it a ks ep i) (x : SetN w s.heap a ks es ep) (hks : Sub8 ks) (he : (ordS w a ep es)[i]? = none)
    (hi : i ≤ ks.length) (h : ∀ h', Heap.ExtBut it s.heap h' → Q none { s with heap := h' }) : wpAny (model prog w) A (pyNext (.ref it)) Q E s := by
  unfold pyNext
  refine wpAny_bind (wpAny_attempt (wpAny_callSpecial?_slot (name := Str.ofString "__next__") hit.typeIs slot_setit_next (wpAny_call_entry slot_setit_next hit.typeIs entry_setit_next ?_ (args_setit_next _))))
  unfold Builtin.«set_iterator.__next__»
  refine wpAny_bind (wpAny_pure ?_)
  refine wpAny_bind (wpAny_fieldsOf hit rfl ?_)
  dsimp only [rawInt]
  refine wpAny_bind (wpAny_setEntries_of x.get rfl (x.fits hks) ?_)
  rw [if_neg (by rw [x.size]; simp)]
  refine wpAny_bind ?_
  simp only [Int.toNat_natCast]
  refine setNext_at x hks hi ?_
  rw [he]
  dsimp only [Option.map_none]
  refine wpAny_bind (wpAny_setField hit rfl (by simp) ?_)
  show wpAny _ _ (newExc (.type "StopIteration") [] >>= _) _ _ _
  refine wpAny_bind ?_
  simp only [newExc, newTuple]
  refine wpAny_bind (wpAny_newObj_type ?_ (by size_fits))
  refine wpAny_bind (m := firstArgMember _ _) (wpAny_of_eq (a := Value.none) (by first | rfl | (simp only [firstArgMember]; rfl)) ?_)
  refine wpAny_newObj_type ?_ (by size_fits)
  simp only [raiseNew]
  refine wpAny_bind (wpAny_handled ?_)
  rw [show A.in1.handled = none from hh]
  refine wpAny_bind (wpAny_pure (wpAny_throw ?_))
  refine wpAny_bind (wpAny_isInstance (T := "StopIteration") (b := true) ⟨_, Heap.get?_push_size _ rfl, rfl⟩ isSubtype_stop ?_)
  exact wpAny_pure (h _ (((Heap.SameBut.update ..).extBut.push _).push _))
theorem walks_set (hh : A.handled = none) (I a : Addr) (hne : a ≠ I) {ks : List Nat} (es : Array (Int × Value)) (ep : Nat) (hks : Sub8 ks) :
    Walks prog w A I [I, a] [I] ks.length (fun i v => ∃ e, (ordS w a ep es)[i]? = some e ∧ v = e.2) (fun i h => i ≤ ks.length ∧ IsSetIt w h I a ks ep i ∧ SetN w h a ks es ep) where
  sub := fun b hb => by simp at hb; simp [hb]
  frame := fun _ _ _ st hk => ⟨st.1, hk I (by simp) _ st.2.1, st.2.2.at fun o e => hk a (by simp) o e⟩
  item := fun i s Q E hi st hQ => by
    have hsz : (ordS w a ep es).size = ks.length := by
      have h2 := (ordS_perm w a ep es).length_eq
      rwa [Array.length_toList, Array.length_toList, st.2.2.size] at h2
    obtain ⟨e, he⟩ : ∃ e, (ordS w a ep es)[i]? = some e := ⟨_, Array.getElem?_eq_getElem (by omega)⟩
    refine next_set st.2.1 st.2.2 hks he fun h' hit' hs' => ?_
    exact hQ e.2 h' s.toks ⟨e, he, rfl⟩ ⟨hi, hit', st.2.2.at fun o q => hs'.extBut a o hne q⟩ fun b o hb q => hs'.extBut b o (fun h => hb (by simp [h])) q
  done := fun s Q E st hQ => by
    have hsz : (ordS w a ep es).size = ks.length := by
      have h2 := (ordS_perm w a ep es).length_eq
      rwa [Array.length_toList, Array.length_toList, st.2.2.size] at h2
    exact next_set_end hh st.2.1 st.2.2 hks (Array.getElem?_eq_none (by omega)) (Nat.le_refl _) fun h' he' => hQ h' s.toks fun b o hb q => he' b o (fun h => hb (by simp [h])) q
  self := fun _ _ _ _ st hQ => by
    refine wpAny_pyIter_slot st.2.1.typeIs slot_setit_iter (wpAny_call_entry slot_setit_iter st.2.1.typeIs entry_setit_iter ?_ (args_setit_iter _))
    show wpAny _ _ (ret (.ref I)) _ _ _
    exact wpAny_pure ⟨_, rfl, "set_iterator", _, st.2.1.typeIs, slot_setit_next.lookup, hQ⟩
theorem hint_set {r : Addr} {Q : Bool → Shared → Prop} (hT : s.TypeIs (.ref r) "set") (h : Q false s) : wpAny (model prog w) A (Builtin.List.listLengthHint (.ref r)) Q E s := by
  unfold Builtin.List.listLengthHint
  refine wpAny_bind (wpAny_specialOf hT F.slot_set_len.lookup ?_)
  generalize hid : ("set.__len__" : String) = id0
  wp_delta
  rw [show splitId id0 = some ("set", "__len__") from by subst hid; decide +kernel]
  subst hid
  refine wpAny_bind (wpAny_isInstance (T := "set") (b := true) hT (by rw [isSubtype_type]; kernel_rfl) ?_)
  refine wpAny_ite_split (fun hab => absurd hab (by decide)) (fun _ => ?_)
  refine wpAny_ite_split (fun _ => ?_) (fun hab => absurd (by decide +kernel) hab)
  refine wpAny_bind (wpAny_typeOf hT ?_)
  exact wpAny_pure h
theorem src_set {a : Addr} {ks : List Nat} (es : Array (Int × Value)) (ep : Nat) (hks : Sub8 ks) : KdlSrc prog w "set" a a ks.length (fun i v => ∃ e, (ordS w a ep es)[i]? = some e ∧ v = e.2) (fun h => SetN w h a ks es ep) where
  type := fun _ x => ⟨_, x.get, rfl⟩
  there := fun _ x => ⟨Heap.lt_size x.get, Heap.lt_size x.get⟩
  keep := fun _ _ x hk => x.at fun o e => hk a (.inl rfl) o e
  notList := by decide
  notTuple := by decide
  hint := fun _ _ _ _ x hq => hint_set ⟨_, x.get, rfl⟩ hq
  iter := fun A' s' hh x => ⟨_, _, (fun _ _ hq => iter_set x hks hq), walks_set hh _ a (Nat.ne_of_lt (Heap.lt_size x.get)) es ep hks, ⟨Nat.zero_le _, Heap.get?_push_size _ rfl, x.at fun o e => Heap.get?_push_of_some _ e⟩⟩
theorem ints_of {es : List (Int × Value)} (h : ∀ e ∈ es, ∃ t, e.2 = .int e.1 t) : IntsAre (es.map (·.2)) (es.map (·.1)) := by
  induction es with
  | nil => exact .nil
  | cons e es ih =>
    obtain ⟨t, ht⟩ := h e (.head _)
    rw [List.map_cons, List.map_cons, ht]
    exact .cons _ _ (ih fun q hq => h q (.tail _ hq))
theorem rp_ints {X : Addr → Prop} {h : Heap} : ∀ {vs : List Value} {ns : List Int}, IntsAre vs ns → RpL X h vs (ns.map .int)
  | _, _, .nil => .nil
  | _, _, .cons n t r => .cons (.int _ _) (rp_ints r)
/-- sorted of a set of small numbers -/
theorem sorted_set {a : Addr} {ks : List Nat} {X : Addr → Prop} {Q : Value → Shared → Prop} (hh : A.handled = none) (hks : Sub8 ks) (hS : SetAt s.heap a (!byText w) ks) (xi : XI X s.heap)
    (h : ∀ v s', Keeps s s' → Rp X s'.heap v (.list (ks.map fun (k : Nat) => .int (k : Int))) → Q v s') : wpAny (model prog w) A (call (.builtin "sorted") [.ref a]) Q E s := by
  obtain ⟨es, ep, hget, hels⟩ := hS
  have x : SetN w s.heap a ks es ep := ⟨hget, hels⟩
  have hl8 := (sub_facts hks true).1
  have hrise := (sub_facts hks true).2.2.2
  refine Calls.call_function_entry kind_sorted plain_sorted entry_sorted (args_sorted1 _) ?_
  unfold Builtin.«sorted»
  refine wpAny_bind (m := checkCount "sorted" 1 1 _) (wpAny_pure ?_)
  refine wpAny_bind (kdu_collect (A := A.in1) (src_set es ep hks) hh x (by rw [sizeLine_eq]; omega) fun h' tk acc hk hacc => ?_)
  refine wpAny_bind (wpAny_newList ?_ (by rw [Array.length_toList, hacc.1, sizeLine_eq]; omega))
  have hvs : acc.toList = (ordS w a ep es).toList.map (·.2) := by
    have hsz : (ordS w a ep es).size = ks.length := by
      have h2 := (ordS_perm w a ep es).length_eq
      rwa [Array.length_toList, Array.length_toList, x.size] at h2
    refine List.ext_getElem? fun i => ?_
    rw [List.getElem?_map, Array.getElem?_toList, Array.getElem?_toList]
    by_cases hi : i < ks.length
    · have h1 : i < acc.size := by rw [hacc.1]; exact hi
      obtain ⟨e, he, hv⟩ := hacc.2 i acc[i] (Array.getElem?_eq_getElem h1)
      rw [he, Array.getElem?_eq_getElem h1, hv]; rfl
    · rw [Array.getElem?_eq_none (by rw [hacc.1]; omega), Array.getElem?_eq_none (by omega)]; rfl
  have hperm := ordS_perm w a ep es
  have hI : IntsAre acc.toList ((ordS w a ep es).toList.map (·.1)) := by
    rw [hvs]
    exact ints_of fun e he => hels.2 e (hperm.mem_iff.mp he)
  have hlen : acc.toList.length < 64 := by rw [Array.length_toList, hacc.1]; omega
  have hoL : (h'.push (seqObj "list" acc.toList.toArray 0)).get? h'.objs.size = some (seqObj "list" acc.toList.toArray 0) := Heap.get?_push_size _ rfl
  refine wpAny_bind (wpAny_holding (wpAny_call_entry slot_list_sort ⟨_, hoL, rfl⟩ entry_list_sort (list_sort_tree hoL hI hlen fun out ns' a1 a2 a3 => ⟨_, rfl, ?_⟩) (args_list_sort _)))
  have hns : ns' = ks.map fun (k : Nat) => (k : Int) := by
    have p1 : ns'.Perm (ks.map fun (k : Nat) => (k : Int)) := a2.trans ((hperm.map _).trans (List.Perm.of_eq hels.1))
    refine List.Perm.eq_of_pairwise (fun x y _ _ h1 h2 => Int.le_antisymm h1 h2) a3 ?_ p1
    rw [List.pairwise_map]
    exact hrise.imp fun h => by omega
  have hlt : ∀ b o, s.heap.get? b = some o → (sortedHeap (h'.push (seqObj "list" acc.toList.toArray 0)) h'.objs.size acc.toList out).get? b = some o := fun b o e => by
    have e1 := hk b o e
    have l1 := Heap.lt_size e1
    rw [sortedHeap_old (Nat.ne_of_lt l1) (by rw [size_push']; exact Nat.lt_succ_of_lt l1)]
    exact Heap.get?_push_of_some _ e1
  obtain ⟨n, hres⟩ := sortedHeap_at (out := out) hoL
  refine wpAny_pure ⟨_, rfl, h _ _ ⟨_, tk, rfl, hlt⟩ (.list hres (fun q => ?_) ?_)⟩
  · obtain ⟨o, e⟩ := xi _ q
    exact absurd (Heap.lt_size (hk _ _ e)) (Nat.lt_irrefl _)
  · have := rp_ints (X := X) (h := sortedHeap (h'.push (seqObj "list" acc.toList.toArray 0)) h'.objs.size acc.toList out) a1
    rw [hns, List.map_map] at this
    exact this
end Mine
end
section
set_option maxRecDepth 100000
namespace Mine
/-- a voter's thirteen stands for the pairs, 0 1 2 -/
noncomputable def stands : List (Nat × Nat × Nat) := [(1,1,1), (1,2,0), (2,0,1), (0,1,2), (2,1,0), (0,2,1), (1,0,2), (2,2,0), (2,0,0), (0,2,0), (2,0,2), (0,2,2), (0,0,2)]
/-- the rows, by weights (8 - place) -/
noncomputable def rowsW : List (Nat × Nat × Nat) := stands.flatMap fun a => stands.map fun b => (8 - (3 * a.1 + b.1), 8 - (3 * a.2.1 + b.2.1), 8 - (3 * a.2.2 + b.2.2))
/-- the weights r that stand in a row with p and q: row p, place q, both from 8 down to 0 -/
noncomputable def mkM (p q : Nat) : Nat := rowsW.foldl (fun acc t => if t.1 == p && t.2.1 == q then acc ||| (1 <<< t.2.2) else acc) 0
noncomputable def down : List Nat := [8, 7, 6, 5, 4, 3, 2, 1, 0]
/-- the rules of size 3, by weights -/
noncomputable def free1 (a b c : Nat) : Bool := (a == 0 || b == 0 || c == 0) && (a == 1 || b == 1 || c == 1)
noncomputable def free3 (a b c : Nat) : Bool := ((a == 0 || b == 0 || c == 0) && (a == 7 || b == 7 || c == 7)) ||
  (((a / 4 == 0 && b / 4 == 0 && c / 4 == 0 && a % 2 == 1 && b % 2 == 1 && c % 2 == 1) || (a / 4 == 1 && b / 4 == 1 && c / 4 == 1 && a % 2 == 0 && b % 2 == 0 && c % 2 == 0)) && free1 (a / 2 % 2) (b / 2 % 2) (c / 2 % 2))
/-- every third weight -/
noncomputable def th (x j : Nat) : Nat := 4 * (x / (64 <<< j) % 2) + 2 * (x / (8 <<< j) % 2) + x / (1 <<< j) % 2
noncomputable def free9 (a b c : Nat) : Bool := ((a == 0 || b == 0 || c == 0) && (a == 511 || b == 511 || c == 511)) ||
  (((a / 64 == 0 && b / 64 == 0 && c / 64 == 0 && a % 8 == 7 && b % 8 == 7 && c % 8 == 7) || (a / 64 == 7 && b / 64 == 7 && c / 64 == 7 && a % 8 == 0 && b % 8 == 0 && c % 8 == 0)) && free3 (a / 8 % 8) (b / 8 % 8) (c / 8 % 8)) ||
  (((th a 2 == 0 && th b 2 == 0 && th c 2 == 0 && th a 0 == 7 && th b 0 == 7 && th c 0 == 7) || (th a 2 == 7 && th b 2 == 7 && th c 2 == 7 && th a 0 == 0 && th b 0 == 0 && th c 0 == 0)) && free3 (th a 1) (th b 1) (th c 1))
noncomputable def goH (F G R1 R0 : Nat) : Nat → Nat → Bool
  | 0, H => free9 F G H
  | r + 1, H => (R1.testBit r || goH F G R1 R0 r (2 * H + 1)) && (R0.testBit r || goH F G R1 R0 r (2 * H))
noncomputable def goG (F : Nat) : List (Nat × Nat) → Nat → Nat → Nat → Bool
  | [], G, R1, R0 => goH F G R1 R0 9 0
  | (a1, a0) :: rest, G, R1, R0 => (((R1 ||| a1) &&& R0) != 0 || goG F rest (2 * G + 1) (R1 ||| a1) R0) && ((R1 &&& (R0 ||| a0)) != 0 || goG F rest (2 * G) R1 (R0 ||| a0))
/-- F's bits decide what G's bits bar -/
noncomputable def tabF (M : List (List Nat)) (F : Nat) : List (Nat × Nat) := (List.range 9).map fun j =>
  ((M.zipIdx.foldl (fun acc x => if F.testBit (8 - x.2) then acc ||| (x.1.getD j 0) else acc) 0), (M.zipIdx.foldl (fun acc x => if F.testBit (8 - x.2) then acc else acc ||| (x.1.getD j 0)) 0))
noncomputable def Mt : List (List Nat) := [[1, 1, 7, 1, 1, 7, 73, 73, 511], [1, 2, 4, 1, 2, 4, 73, 146, 292], [7, 4, 4, 7, 4, 4, 511, 292, 292], [1, 1, 7, 8, 8, 56, 64, 64, 448], [1, 2, 4, 8, 16, 32, 64, 128, 256], [7, 4, 4, 56, 32, 32, 448, 256, 256], [73, 73, 511, 64, 64, 448, 64, 64, 448],
  [73, 146, 292, 64, 128, 256, 64, 128, 256], [511, 292, 292, 448, 256, 256, 448, 256, 256]]
noncomputable def chunk (i : Nat) : Bool := (List.range 64).all fun j => goG (64 * i + j) (tabF Mt (64 * i + j)) 0 0 0
theorem chunk0 : chunk 0 = true := by decide +kernel
theorem chunk1 : chunk 1 = true := by decide +kernel
theorem chunk2 : chunk 2 = true := by decide +kernel
theorem chunk3 : chunk 3 = true := by decide +kernel
theorem chunk4 : chunk 4 = true := by decide +kernel
theorem chunk5 : chunk 5 = true := by decide +kernel
theorem chunk6 : chunk 6 = true := by decide +kernel
theorem chunk7 : chunk 7 = true := by decide +kernel
end Mine
end
section
set_option maxRecDepth 100000
namespace Mine
theorem goH_ok (F G R1 R0 : Nat) : ∀ (n H : Nat), goH F G R1 R0 n H = true → ∀ X, X < 2 ^ n → (∀ i, i < n → R1.testBit i = true → X.testBit i = false) → (∀ i, i < n → R0.testBit i = true → X.testBit i = true) → free9 F G (H * 2 ^ n + X) = true
  | 0, H, h, X, hX, _, _ => by
    have : X = 0 := by omega
    subst this
    simpa [goH] using h
  | n + 1, H, h, X, hX, h1, h0 => by
    unfold goH at h
    rw [Bool.and_eq_true, Bool.or_eq_true, Bool.or_eq_true] at h
    have hp : 0 < 2 ^ n := Nat.two_pow_pos n
    have hpow : 2 ^ (n + 1) = 2 * 2 ^ n := by rw [Nat.pow_succ]; omega
    by_cases hb : 2 ^ n ≤ X
    · have hn : X.testBit n = true := by
        rw [Nat.testBit_eq_decide_div_mod_eq]
        have : X / 2 ^ n = 1 := by
          rw [Nat.div_eq_iff hp]; omega
        simp [this]
      have hr : ¬ R1.testBit n = true := fun q => by rw [h1 n (by omega) q] at hn; cases hn
      have hg := h.1.resolve_left hr
      have hX' : X - 2 ^ n < 2 ^ n := by omega
      have hbit : ∀ i, i < n → (X - 2 ^ n).testBit i = X.testBit i := fun i hi => by
        have e : X = 2 ^ n + (X - 2 ^ n) := by omega
        conv => rhs; rw [e]
        rw [Nat.testBit_two_pow_add_gt hi]
      have := goH_ok F G R1 R0 n (2 * H + 1) hg (X - 2 ^ n) hX' (fun i hi q => by rw [hbit i hi]; exact h1 i (by omega) q) (fun i hi q => by rw [hbit i hi]; exact h0 i (by omega) q)
      have e : (2 * H + 1) * 2 ^ n + (X - 2 ^ n) = H * 2 ^ (n + 1) + X := by
        rw [hpow, Nat.add_mul]
        have : 2 * H * 2 ^ n = H * (2 * 2 ^ n) := by rw [Nat.mul_comm 2 H, Nat.mul_assoc]
        omega
      rw [e] at this; exact this
    · have hlt : X < 2 ^ n := by omega
      have hn : X.testBit n = false := Nat.testBit_lt_two_pow hlt
      have hr : ¬ R0.testBit n = true := fun q => by rw [h0 n (by omega) q] at hn; cases hn
      have hg := h.2.resolve_left hr
      have := goH_ok F G R1 R0 n (2 * H) hg X hlt (fun i hi q => h1 i (by omega) q) (fun i hi q => h0 i (by omega) q)
      have e : 2 * H * 2 ^ n + X = H * 2 ^ (n + 1) + X := by
        rw [hpow]
        have : 2 * H * 2 ^ n = H * (2 * 2 ^ n) := by rw [Nat.mul_comm 2 H, Nat.mul_assoc]
        omega
      rw [e] at this; exact this
noncomputable def foldG : List (Nat × Nat) → Nat → Nat → Nat → Nat × Nat
  | [], _, R1, R0 => (R1, R0)
  | (a1, a0) :: rest, Y, R1, R0 => if Y.testBit rest.length then foldG rest Y (R1 ||| a1) R0 else foldG rest Y R1 (R0 ||| a0)
theorem foldG_mono : ∀ (tab : List (Nat × Nat)) (Y R1 R0 i : Nat), (R1.testBit i = true → (foldG tab Y R1 R0).1.testBit i = true) ∧ (R0.testBit i = true → (foldG tab Y R1 R0).2.testBit i = true)
  | [], _, _, _, _ => ⟨id, id⟩
  | (a1, a0) :: rest, Y, R1, R0, i => by
    unfold foldG
    split
    · have := foldG_mono rest Y (R1 ||| a1) R0 i
      exact ⟨fun h => this.1 (by rw [Nat.testBit_or, h]; rfl), this.2⟩
    · have := foldG_mono rest Y R1 (R0 ||| a0) i
      exact ⟨this.1, fun h => this.2 (by rw [Nat.testBit_or, h]; rfl)⟩
theorem and_bits {a b : Nat} (h : (a &&& b != 0) = true) : ∃ i, a.testBit i = true ∧ b.testBit i = true := by
  have : a &&& b ≠ 0 := by simpa using h
  obtain ⟨i, hi⟩ := Nat.exists_testBit_of_ne_zero this
  rw [Nat.testBit_and, Bool.and_eq_true] at hi
  exact ⟨i, hi.1, hi.2⟩
theorem foldG_congr : ∀ (tab : List (Nat × Nat)) (Y Z R1 R0 : Nat), (∀ i, i < tab.length → Y.testBit i = Z.testBit i) → foldG tab Y R1 R0 = foldG tab Z R1 R0
  | [], _, _, _, _, _ => rfl
  | (a1, a0) :: rest, Y, Z, R1, R0, h => by
    unfold foldG
    rw [h rest.length (by simp)]
    rw [foldG_congr rest Y Z _ _ fun i hi => h i (by simp; omega), foldG_congr rest Y Z _ _ fun i hi => h i (by simp; omega)]
theorem goG_ok (F : Nat) : ∀ (tab : List (Nat × Nat)) (G R1 R0 : Nat), goG F tab G R1 R0 = true → ∀ Y, Y < 2 ^ tab.length → (∀ i, ¬ ((foldG tab Y R1 R0).1.testBit i = true ∧ (foldG tab Y R1 R0).2.testBit i = true)) →
    goH F (G * 2 ^ tab.length + Y) (foldG tab Y R1 R0).1 (foldG tab Y R1 R0).2 9 0 = true
  | [], G, R1, R0, h, Y, hY, _ => by
    have : Y = 0 := by simp at hY; omega
    subst this
    simpa [foldG, goG] using h
  | (a1, a0) :: rest, G, R1, R0, h, Y, hY, hd => by
    unfold goG at h
    rw [Bool.and_eq_true, Bool.or_eq_true, Bool.or_eq_true] at h
    rw [List.length_cons] at hY ⊢
    generalize hn : rest.length = n at *
    have hp : 0 < 2 ^ n := Nat.two_pow_pos n
    have hpow : 2 ^ (n + 1) = 2 * 2 ^ n := by rw [Nat.pow_succ]; omega
    by_cases hb : 2 ^ n ≤ Y
    · have hbn : Y.testBit n = true := by
        rw [Nat.testBit_eq_decide_div_mod_eq]
        have : Y / 2 ^ n = 1 := by rw [Nat.div_eq_iff hp]; omega
        simp [this]
      have hf : foldG ((a1, a0) :: rest) Y R1 R0 = foldG rest Y (R1 ||| a1) R0 := by
        conv => lhs; unfold foldG
        rw [hn, hbn, if_pos rfl]
      have hbit : ∀ i, i < rest.length → Y.testBit i = (Y - 2 ^ n).testBit i := fun i hi => by
        have e : Y = 2 ^ n + (Y - 2 ^ n) := by omega
        conv => lhs; rw [e]
        rw [Nat.testBit_two_pow_add_gt (by omega)]
      rw [hf, foldG_congr rest Y (Y - 2 ^ n) _ _ hbit] at hd ⊢
      have hg := h.1.resolve_left fun q => by
        obtain ⟨i, h1, h2⟩ := and_bits q
        exact hd i ⟨(foldG_mono ..).1 h1, (foldG_mono ..).2 h2⟩
      have := goG_ok F rest (2 * G + 1) (R1 ||| a1) R0 hg (Y - 2 ^ n) (by rw [hn]; omega) hd
      have e : (2 * G + 1) * 2 ^ rest.length + (Y - 2 ^ n) = G * 2 ^ (n + 1) + Y := by
        rw [hn, hpow, Nat.add_mul]
        have : 2 * G * 2 ^ n = G * (2 * 2 ^ n) := by rw [Nat.mul_comm 2 G, Nat.mul_assoc]
        omega
      rw [e] at this; exact this
    · have hlt : Y < 2 ^ n := by omega
      have hbn : Y.testBit n = false := Nat.testBit_lt_two_pow hlt
      have hf : foldG ((a1, a0) :: rest) Y R1 R0 = foldG rest Y R1 (R0 ||| a0) := by
        conv => lhs; unfold foldG
        rw [hn, hbn, if_neg (by decide)]
      rw [hf] at hd ⊢
      have hg := h.2.resolve_left fun q => by
        obtain ⟨i, h1, h2⟩ := and_bits q
        exact hd i ⟨(foldG_mono ..).1 h1, (foldG_mono ..).2 h2⟩
      have := goG_ok F rest (2 * G) R1 (R0 ||| a0) hg Y (by rw [hn]; omega) hd
      have e : 2 * G * 2 ^ rest.length + Y = G * 2 ^ (n + 1) + Y := by
        rw [hn, hpow]
        have : 2 * G * 2 ^ n = G * (2 * 2 ^ n) := by rw [Nat.mul_comm 2 G, Nat.mul_assoc]
        omega
      rw [e] at this; exact this
end Mine
end
section
set_option maxRecDepth 100000
namespace Mine
theorem foldG_1 : ∀ (tab : List (Nat × Nat)) (Y R1 R0 r : Nat), (foldG tab Y R1 R0).1.testBit r = true → R1.testBit r = true ∨ ∃ j, j < tab.length ∧ Y.testBit (tab.length - 1 - j) = true ∧ (tab.getD j (0, 0)).1.testBit r = true
  | [], _, _, _, _, h => .inl h
  | (a1, a0) :: rest, Y, R1, R0, r, h => by
    unfold foldG at h
    split at h
    · rename_i hb
      rcases foldG_1 rest Y _ _ r h with q | ⟨j, h1, h2, h3⟩
      · rw [Nat.testBit_or, Bool.or_eq_true] at q
        rcases q with q | q
        · exact .inl q
        · exact .inr ⟨0, by simp, by simpa using hb, by simpa using q⟩
      · exact .inr ⟨j + 1, by simpa using h1, by simpa [Nat.sub_sub, Nat.add_comm] using h2, by simpa using h3⟩
    · rcases foldG_1 rest Y _ _ r h with q | ⟨j, h1, h2, h3⟩
      · exact .inl q
      · exact .inr ⟨j + 1, by simpa using h1, by simpa [Nat.sub_sub, Nat.add_comm] using h2, by simpa using h3⟩
theorem foldG_2 : ∀ (tab : List (Nat × Nat)) (Y R1 R0 r : Nat), (foldG tab Y R1 R0).2.testBit r = true → R0.testBit r = true ∨ ∃ j, j < tab.length ∧ Y.testBit (tab.length - 1 - j) = false ∧ (tab.getD j (0, 0)).2.testBit r = true
  | [], _, _, _, _, h => .inl h
  | (a1, a0) :: rest, Y, R1, R0, r, h => by
    unfold foldG at h
    split at h
    · rcases foldG_2 rest Y _ _ r h with q | ⟨j, h1, h2, h3⟩
      · exact .inl q
      · exact .inr ⟨j + 1, by simpa using h1, by simpa [Nat.sub_sub, Nat.add_comm] using h2, by simpa using h3⟩
    · rename_i hb
      rcases foldG_2 rest Y _ _ r h with q | ⟨j, h1, h2, h3⟩
      · rw [Nat.testBit_or, Bool.or_eq_true] at q
        rcases q with q | q
        · exact .inl q
        · exact .inr ⟨0, by simp, by simpa using hb, by simpa using q⟩
      · exact .inr ⟨j + 1, by simpa using h1, by simpa [Nat.sub_sub, Nat.add_comm] using h2, by simpa using h3⟩
theorem foldl_or {α : Type} (c : α → Bool) (v : α → Nat) (r : Nat) : ∀ (l : List α) (a : Nat), (l.foldl (fun acc x => if c x = true then acc ||| v x else acc) a).testBit r = true → a.testBit r = true ∨ ∃ x ∈ l, c x = true ∧ (v x).testBit r = true
  | [], _, h => .inl h
  | x :: l, a, h => by
    rw [List.foldl_cons] at h
    rcases foldl_or c v r l _ h with q | ⟨y, hy, q⟩
    · split at q
      · rename_i hc
        rw [Nat.testBit_or, Bool.or_eq_true] at q
        rcases q with q | q
        · exact .inl q
        · exact .inr ⟨x, .head _, hc, q⟩
      · exact .inl q
    · exact .inr ⟨y, .tail _ hy, q⟩
theorem foldl_or' {α : Type} (c : α → Bool) (v : α → Nat) (r : Nat) : ∀ (l : List α) (a : Nat), (l.foldl (fun acc x => if c x = true then acc else acc ||| v x) a).testBit r = true → a.testBit r = true ∨ ∃ x ∈ l, c x = false ∧ (v x).testBit r = true
  | [], _, h => .inl h
  | x :: l, a, h => by
    rw [List.foldl_cons] at h
    rcases foldl_or' c v r l _ h with q | ⟨y, hy, q⟩
    · split at q
      · exact .inl q
      · rename_i hc
        rw [Nat.testBit_or, Bool.or_eq_true] at q
        rcases q with q | q
        · exact .inl q
        · exact .inr ⟨x, .head _, by simpa using hc, q⟩
    · exact .inr ⟨y, .tail _ hy, q⟩
theorem Mt_rowsB : ((List.range 9).all fun i => (List.range 9).all fun j => (List.range 9).all fun r => !((Mt.getD i []).getD j 0).testBit r || rowsW.contains (8 - i, 8 - j, r)) = true := by decide +kernel
theorem Mt_rows (i : Nat) (hi : i < 9) (j : Nat) (hj : j < 9) (r : Nat) (hr : r < 9) (h : ((Mt.getD i []).getD j 0).testBit r = true) : (8 - i, 8 - j, r) ∈ rowsW := by
  have h1 := List.all_eq_true.mp (List.all_eq_true.mp (List.all_eq_true.mp Mt_rowsB i (List.mem_range.mpr hi)) j (List.mem_range.mpr hj)) r (List.mem_range.mpr hr)
  rw [h] at h1
  simpa using h1
theorem Mt_lt : ∀ i, i < 9 → ∀ j, j < 9 → (Mt.getD i []).getD j 0 < 512 := by decide +kernel
theorem Mt_row {x : List Nat × Nat} (hx : x ∈ Mt.zipIdx) {j r : Nat} (hj : j < 9) (h : (x.1.getD j 0).testBit r = true) : x.2 < 9 ∧ r < 9 ∧ (8 - x.2, 8 - j, r) ∈ rowsW := by
  have h1 := List.mem_zipIdx_iff_getElem?.mp hx
  have h2 : x.2 < 9 := (List.getElem?_eq_some_iff.mp h1).1
  have h3 : Mt.getD x.2 [] = x.1 := by rw [List.getD_eq_getElem?_getD, h1]; rfl
  have hr : r < 9 := by
    rcases Nat.lt_or_ge r 9 with q | q
    · exact q
    · have hl := Mt_lt x.2 h2 j hj
      rw [h3] at hl
      rw [Nat.testBit_lt_two_pow (Nat.lt_of_lt_of_le hl (by show 2 ^ 9 ≤ 2 ^ r; exact Nat.pow_le_pow_right (by decide) q))] at h
      cases h
  exact ⟨h2, hr, Mt_rows x.2 h2 j hj r hr (by rw [h3]; exact h)⟩
/-- no row leads round -/
noncomputable def acyc (F G H : Nat) : Prop := ∀ t ∈ rowsW, ¬ (F.testBit t.1 = G.testBit t.2.1 ∧ G.testBit t.2.1 = H.testBit t.2.2)
theorem acyc_free {F G H : Nat} (hF : F < 512) (hG : G < 512) (hH : H < 512) (ha : acyc F G H) : free9 F G H = true := by
  have hchk : goG F (tabF Mt F) 0 0 0 = true := by
    have hall : ∀ i, i < 8 → chunk i = true := by
      intro i hi
      match i, hi with
      | 0, _ => exact chunk0
      | 1, _ => exact chunk1
      | 2, _ => exact chunk2
      | 3, _ => exact chunk3
      | 4, _ => exact chunk4
      | 5, _ => exact chunk5
      | 6, _ => exact chunk6
      | 7, _ => exact chunk7
    have := hall (F / 64) (by omega)
    unfold chunk at this
    have := List.all_eq_true.mp this (F % 64) (List.mem_range.mpr (by omega))
    have e : 64 * (F / 64) + F % 64 = F := by omega
    rw [e] at this; exact this
  have hlen : (tabF Mt F).length = 9 := by simp [tabF]
  have hget : ∀ j, j < 9 → (tabF Mt F).getD j (0, 0) = ((Mt.zipIdx.foldl (fun acc x => if F.testBit (8 - x.2) = true then acc ||| (x.1.getD j 0) else acc) 0), (Mt.zipIdx.foldl (fun acc x => if F.testBit (8 - x.2) = true then acc else acc ||| (x.1.getD j 0)) 0)) := fun j hj => by
    unfold tabF
    rw [List.getD_eq_getElem?_getD, List.getElem?_map, List.getElem?_range hj]; rfl
  have b1 : ∀ r, (foldG (tabF Mt F) G 0 0).1.testBit r = true → r < 9 ∧ H.testBit r = false := fun r hr => by
    rcases foldG_1 _ _ _ _ _ hr with q | ⟨j, h1, h2, h3⟩
    · simp at q
    · rw [hlen] at h1 h2
      rw [hget j h1] at h3
      rcases foldl_or (fun x : List Nat × Nat => F.testBit (8 - x.2)) (fun x => x.1.getD j 0) r _ _ h3 with q | ⟨x, hx, hc, hv⟩
      · simp at q
      · obtain ⟨_, hr9, hm⟩ := Mt_row hx h1 hv
        refine ⟨hr9, ?_⟩
        have := ha _ hm
        simp only at this
        have h2' : G.testBit (8 - j) = true := h2
        rw [hc, h2'] at this
        cases hz : H.testBit r with
        | false => rfl
        | true => rw [hz] at this; exact absurd ⟨rfl, rfl⟩ this
  have b0 : ∀ r, (foldG (tabF Mt F) G 0 0).2.testBit r = true → r < 9 ∧ H.testBit r = true := fun r hr => by
    rcases foldG_2 _ _ _ _ _ hr with q | ⟨j, h1, h2, h3⟩
    · simp at q
    · rw [hlen] at h1 h2
      rw [hget j h1] at h3
      rcases foldl_or' (fun x : List Nat × Nat => F.testBit (8 - x.2)) (fun x => x.1.getD j 0) r _ _ h3 with q | ⟨x, hx, hc, hv⟩
      · simp at q
      · obtain ⟨_, hr9, hm⟩ := Mt_row hx h1 hv
        refine ⟨hr9, ?_⟩
        have := ha _ hm
        simp only at this
        have h2' : G.testBit (8 - j) = false := h2
        rw [hc, h2'] at this
        cases hz : H.testBit r with
        | true => rfl
        | false => rw [hz] at this; exact absurd ⟨rfl, rfl⟩ this
  have h1 := goG_ok F (tabF Mt F) 0 0 0 hchk G (by rw [hlen]; exact hG) (fun i q => by
    have := (b1 i q.1).2
    rw [(b0 i q.2).2] at this; cases this)
  have h2 := goH_ok _ _ _ _ 9 0 h1 H hH (fun i _ q => (b1 i q).2) (fun i _ q => (b0 i q).2)
  simpa using h2
end Mine
end
section
set_option maxRecDepth 100000
namespace Mine
noncomputable def acycB (F G H : Nat) : Bool := rowsW.all fun t => !(F.testBit t.1 == G.testBit t.2.1 && G.testBit t.2.1 == H.testBit t.2.2)
theorem acycB_iff (F G H : Nat) : acycB F G H = true ↔ acyc F G H := by
  unfold acycB acyc
  rw [List.all_eq_true]
  refine forall_congr' fun t => forall_congr' fun _ => ?_
  cases F.testBit t.1 <;> cases G.testBit t.2.1 <;> cases H.testBit t.2.2 <;> simp
noncomputable def sp (x : Nat) : Nat := 64 * (x / 4 % 2) + 8 * (x / 2 % 2) + x % 2
noncomputable def chkM (lo : Nat → Nat) : Bool := (List.range 8).all fun a => (List.range 8).all fun b => (List.range 8).all fun c => !free3 a b c || acycB (lo a) (lo b) (lo c)
theorem chk1 : chkM (fun m => 8 * m + 7) = true := by decide +kernel
theorem chk2 : chkM (fun m => 448 + 8 * m) = true := by decide +kernel
theorem chk3 : chkM (fun m => 2 * sp m + sp 7) = true := by decide +kernel
theorem chk4 : chkM (fun m => 4 * sp 7 + 2 * sp m) = true := by decide +kernel
theorem chkM_ok {lo : Nat → Nat} (h : chkM lo = true) {a b c : Nat} (ha : a < 8) (hb : b < 8) (hc : c < 8) (hf : free3 a b c = true) : acyc (lo a) (lo b) (lo c) := by
  have := List.all_eq_true.mp (List.all_eq_true.mp (List.all_eq_true.mp h a (List.mem_range.mpr ha)) b (List.mem_range.mpr hb)) c (List.mem_range.mpr hc)
  rw [hf] at this
  exact (acycB_iff ..).mp (by simpa using this)
theorem rows_lt : ∀ t ∈ rowsW, t.1 < 9 ∧ t.2.1 < 9 ∧ t.2.2 < 9 := by decide +kernel
theorem ones9 (i : Nat) (h : i < 9) : (511).testBit i = true := by
  have : ∀ i, i < 9 → (511).testBit i = true := by decide
  exact this i h
theorem sp_eq : ∀ a, a < 512 → a = 4 * sp (th a 2) + 2 * sp (th a 1) + sp (th a 0) := by decide +kernel
theorem th_lt (a j : Nat) : th a j < 8 := by unfold th; omega
theorem free_acyc {F G H : Nat} (hF : F < 512) (hG : G < 512) (hH : H < 512) (h : free9 F G H = true) : acyc F G H := by
  unfold free9 at h
  rw [Bool.or_eq_true, Bool.or_eq_true] at h
  rcases h with (h | h) | h
  · simp only [Bool.and_eq_true, Bool.or_eq_true, beq_iff_eq] at h
    intro t ht ⟨e1, e2⟩
    obtain ⟨h1, h2, h3⟩ := rows_lt t ht
    have z : ∀ x i, x = 0 → Nat.testBit x i = false := fun x i q => by rw [q]; exact Nat.zero_testBit i
    have o : ∀ x i, x = 511 → i < 9 → Nat.testBit x i = true := fun x i q hi => by rw [q]; exact ones9 i hi
    have e3 := e1.trans e2
    rcases h with ⟨(q | q) | q, (q' | q') | q'⟩
    · omega
    · rw [z F _ q, o G _ q' h2] at e1; cases e1
    · rw [z F _ q, o H _ q' h3] at e3; cases e3
    · rw [z G _ q, o F _ q' h1] at e1; cases e1
    · omega
    · rw [z G _ q, o H _ q' h3] at e2; cases e2
    · rw [z H _ q, o F _ q' h1] at e3; cases e3
    · rw [z H _ q, o G _ q' h2] at e2; cases e2
    · omega
  · simp only [Bool.and_eq_true, Bool.or_eq_true, beq_iff_eq] at h
    obtain ⟨h, hf⟩ := h
    rcases h with h | h
    · have e : ∀ x, x < 512 → x / 64 = 0 → x % 8 = 7 → x = 8 * (x / 8 % 8) + 7 := fun x _ _ _ => by omega
      rw [e F hF h.1.1.1.1.1 h.1.1.2, e G hG h.1.1.1.1.2 h.1.2, e H hH h.1.1.1.2 h.2]
      exact chkM_ok chk1 (by omega) (by omega) (by omega) hf
    · have e : ∀ x, x < 512 → x / 64 = 7 → x % 8 = 0 → x = 448 + 8 * (x / 8 % 8) := fun x _ _ _ => by omega
      rw [e F hF h.1.1.1.1.1 h.1.1.2, e G hG h.1.1.1.1.2 h.1.2, e H hH h.1.1.1.2 h.2]
      exact chkM_ok chk2 (by omega) (by omega) (by omega) hf
  · simp only [Bool.and_eq_true, Bool.or_eq_true, beq_iff_eq] at h
    obtain ⟨h, hf⟩ := h
    rcases h with h | h
    · have e : ∀ x, x < 512 → th x 2 = 0 → th x 0 = 7 → x = 2 * sp (th x 1) + sp 7 := fun x hx h2 h0 => by
        have := sp_eq x hx
        rw [h2, h0] at this
        have z : sp 0 = 0 := rfl
        rw [z] at this; omega
      rw [e F hF h.1.1.1.1.1 h.1.1.2, e G hG h.1.1.1.1.2 h.1.2, e H hH h.1.1.1.2 h.2]
      exact chkM_ok chk3 (th_lt ..) (th_lt ..) (th_lt ..) hf
    · have e : ∀ x, x < 512 → th x 2 = 7 → th x 0 = 0 → x = 4 * sp 7 + 2 * sp (th x 1) := fun x hx h2 h0 => by
        have := sp_eq x hx
        rw [h2, h0] at this
        have z : sp 0 = 0 := rfl
        rw [z] at this; omega
      rw [e F hF h.1.1.1.1.1 h.1.1.2, e G hG h.1.1.1.1.2 h.1.2, e H hH h.1.1.1.2 h.2]
      exact chkM_ok chk4 (th_lt ..) (th_lt ..) (th_lt ..) hf
theorem plain_law {F G H : Nat} (hF : F < 512) (hG : G < 512) (hH : H < 512) : acycB F G H = free9 F G H := by
  rw [Bool.eq_iff_iff, acycB_iff]
  exact ⟨acyc_free hF hG hH, free_acyc hF hG hH⟩
end Mine
end
section
set_option maxRecDepth 100000
namespace Mine
noncomputable def bitsL (F : Nat) : List Int := [((F / 256 % 2 : Nat) : Int), ((F / 128 % 2 : Nat) : Int), ((F / 64 % 2 : Nat) : Int), ((F / 32 % 2 : Nat) : Int), ((F / 16 % 2 : Nat) : Int), ((F / 8 % 2 : Nat) : Int), ((F / 4 % 2 : Nat) : Int), ((F / 2 % 2 : Nat) : Int), ((F % 2 : Nat) : Int)]
noncomputable def b3 (m : Nat) : List Int := [((m / 4 % 2 : Nat) : Int), ((m / 2 % 2 : Nat) : Int), ((m % 2 : Nat) : Int)]
noncomputable def baseB (r : List (List Int)) : Bool := r.contains [0] && r.contains [1]
noncomputable def small (ps : List (List (List Int))) : Bool := stepB 3 1 (mid 1 ps) fun qs => baseB (mid 1 qs)
theorem allN {p : Nat → Bool} {n : Nat} (h : (List.range n).all p = true) (i : Nat) (hi : i < n) : p i = true := List.all_eq_true.mp h i (List.mem_range.mpr hi)
theorem cls_bits : ((List.range 512).all fun F => pk (bitsL F) none (some 3) none == b3 (F / 64) && pk (bitsL F) (some 3) (some 6) none == b3 (F / 8 % 8) && pk (bitsL F) (some 6) none none == b3 (F % 8)) = true := by decide +kernel
theorem deed_bits : ((List.range 512).all fun F => pk (bitsL F) (some 0) none (some 3) == b3 (th F 2) && pk (bitsL F) (some 1) none (some 3) == b3 (th F 1) && pk (bitsL F) (some 2) none (some 3) == b3 (th F 0)) = true := by decide +kernel
theorem ends_bits : ((List.range 512).all fun F => ((List.replicate 9 0 == bitsL F) == (F == 0)) && ((List.replicate 9 1 == bitsL F) == (F == 511))) = true := by decide +kernel
theorem ends_b3 : ((List.range 8).all fun m => ((b3 m == List.replicate 3 0) == (m == 0)) && ((b3 m == List.replicate 3 1) == (m == 7))) = true := by decide +kernel
theorem small_b3 : ((List.range 8).all fun a => (List.range 8).all fun b => (List.range 8).all fun c => (stepB 3 1 [b3 a, b3 b, b3 c] fun qs => baseB (mid 1 qs)) == free3 a b c) = true := by decide +kernel
theorem hit_eq {t0 t1 t2 u0 u1 u2 v0 v1 v2 : Nat} (h0 : t0 < 8) (h1 : u0 < 8) (h2 : v0 < 8) (k0 : t1 < 8) (k1 : u1 < 8) (k2 : v1 < 8) (l0 : t2 < 8) (l1 : u2 < 8) (l2 : v2 < 8) :
    hit 3 small [[b3 t0, b3 t1, b3 t2], [b3 u0, b3 u1, b3 u2], [b3 v0, b3 v1, b3 v2]] 0 = (t0 == 0 && u0 == 0 && v0 == 0 && t2 == 7 && u2 == 7 && v2 == 7 && free3 t1 u1 v1) ∧
    hit 3 small [[b3 t0, b3 t1, b3 t2], [b3 u0, b3 u1, b3 u2], [b3 v0, b3 v1, b3 v2]] 1 = (t0 == 7 && u0 == 7 && v0 == 7 && t2 == 0 && u2 == 0 && v2 == 0 && free3 t1 u1 v1) := by
  have e0 : ∀ m, m < 8 → (b3 m == List.replicate 3 0) = (m == 0) ∧ (b3 m == List.replicate 3 1) = (m == 7) := fun m hm => by
    have := allN ends_b3 m hm
    simp only [Bool.and_eq_true, beq_iff_eq] at this
    exact this
  have es : small [[b3 t0, b3 t1, b3 t2], [b3 u0, b3 u1, b3 u2], [b3 v0, b3 v1, b3 v2]] = free3 t1 u1 v1 := by
    have := allN (allN (allN small_b3 t1 k0) u1 k1) v1 k2
    exact eq_of_beq this
  have m3 : ∀ (x y z : List Int) (r : List Int), ([x, y, z] == List.replicate 3 r) = (x == r && y == r && z == r) := fun x y z r => by
    show (x == r && (y == r && (z == r && true))) = _
    simp [Bool.and_assoc]
  constructor
  · unfold hit
    rw [es]
    show ([b3 t0, b3 u0, b3 v0] == List.replicate 3 (List.replicate 3 0) && [b3 t2, b3 u2, b3 v2] == List.replicate 3 (List.replicate 3 (1 - 0)) && free3 t1 u1 v1) = _
    rw [m3, m3, (e0 _ h0).1, (e0 _ h1).1, (e0 _ h2).1, show ((1 : Int) - 0) = 1 from rfl, (e0 _ l0).2, (e0 _ l1).2, (e0 _ l2).2]
    simp [Bool.and_assoc]
  · unfold hit
    rw [es]
    show ([b3 t0, b3 u0, b3 v0] == List.replicate 3 (List.replicate 3 1) && [b3 t2, b3 u2, b3 v2] == List.replicate 3 (List.replicate 3 (1 - 1)) && free3 t1 u1 v1) = _
    rw [m3, m3, (e0 _ h0).2, (e0 _ h1).2, (e0 _ h2).2, show ((1 : Int) - 1) = 0 from rfl, (e0 _ l0).1, (e0 _ l1).1, (e0 _ l2).1]
    simp [Bool.and_assoc]
theorem step_free9 {F G H : Nat} (hF : F < 512) (hG : G < 512) (hH : H < 512) : stepB 9 3 [bitsL F, bitsL G, bitsL H] small = free9 F G H := by
  have ec : ∀ x, x < 512 → pk (bitsL x) none (some 3) none = b3 (x / 64) ∧ pk (bitsL x) (some 3) (some 6) none = b3 (x / 8 % 8) ∧ pk (bitsL x) (some 6) none none = b3 (x % 8) := fun x hx => by
    have := allN cls_bits x hx
    simp only [Bool.and_eq_true, beq_iff_eq] at this
    exact ⟨this.1.1, this.1.2, this.2⟩
  have ed : ∀ x, x < 512 → pk (bitsL x) (some 0) none (some 3) = b3 (th x 2) ∧ pk (bitsL x) (some 1) none (some 3) = b3 (th x 1) ∧ pk (bitsL x) (some 2) none (some 3) = b3 (th x 0) := fun x hx => by
    have := allN deed_bits x hx
    simp only [Bool.and_eq_true, beq_iff_eq] at this
    exact ⟨this.1.1, this.1.2, this.2⟩
  have ee : ∀ x, x < 512 → (List.replicate 9 0 == bitsL x) = (x == 0) ∧ (List.replicate 9 1 == bitsL x) = (x == 511) := fun x hx => by
    have := allN ends_bits x hx
    simp only [Bool.and_eq_true, beq_iff_eq] at this
    exact this
  have hc : clsP 3 [bitsL F, bitsL G, bitsL H] = [[b3 (F / 64), b3 (F / 8 % 8), b3 (F % 8)], [b3 (G / 64), b3 (G / 8 % 8), b3 (G % 8)], [b3 (H / 64), b3 (H / 8 % 8), b3 (H % 8)]] := by
    show [[pk (bitsL F) none (some 3) none, pk (bitsL F) (some 3) (some 6) none, pk (bitsL F) (some 6) none none], [pk (bitsL G) none (some 3) none, pk (bitsL G) (some 3) (some 6) none, pk (bitsL G) (some 6) none none], [pk (bitsL H) none (some 3) none, pk (bitsL H) (some 3) (some 6) none, pk (bitsL H) (some 6) none none]] = _
    rw [(ec F hF).1, (ec F hF).2.1, (ec F hF).2.2, (ec G hG).1, (ec G hG).2.1, (ec G hG).2.2, (ec H hH).1, (ec H hH).2.1, (ec H hH).2.2]
  have hdd : deedP [bitsL F, bitsL G, bitsL H] = [[b3 (th F 2), b3 (th F 1), b3 (th F 0)], [b3 (th G 2), b3 (th G 1), b3 (th G 0)], [b3 (th H 2), b3 (th H 1), b3 (th H 0)]] := by
    show [[pk (bitsL F) (some 0) none (some 3), pk (bitsL F) (some 1) none (some 3), pk (bitsL F) (some 2) none (some 3)], [pk (bitsL G) (some 0) none (some 3), pk (bitsL G) (some 1) none (some 3), pk (bitsL G) (some 2) none (some 3)], [pk (bitsL H) (some 0) none (some 3), pk (bitsL H) (some 1) none (some 3), pk (bitsL H) (some 2) none (some 3)]] = _
    rw [(ed F hF).1, (ed F hF).2.1, (ed F hF).2.2, (ed G hG).1, (ed G hG).2.1, (ed G hG).2.2, (ed H hH).1, (ed H hH).2.1, (ed H hH).2.2]
  unfold stepB
  rw [hc, hdd]
  have h1 := hit_eq (t0 := F / 64) (u0 := G / 64) (v0 := H / 64) (t1 := F / 8 % 8) (u1 := G / 8 % 8) (v1 := H / 8 % 8) (t2 := F % 8) (u2 := G % 8) (v2 := H % 8) (by omega) (by omega) (by omega) (by omega) (by omega) (by omega) (by omega) (by omega) (by omega)
  have h2 := hit_eq (th_lt F 2) (th_lt G 2) (th_lt H 2) (th_lt F 1) (th_lt G 1) (th_lt H 1) (th_lt F 0) (th_lt G 0) (th_lt H 0)
  rw [h1.1, h1.2, h2.1, h2.2]
  have cc : ∀ (a x y z : List Int), [x, y, z].contains a = (a == x || a == y || a == z) := fun a x y z => by simp only [List.contains_cons, List.contains_nil, Bool.or_false, Bool.or_assoc]
  rw [cc, cc, (ee F hF).1, (ee G hG).1, (ee H hH).1, (ee F hF).2, (ee G hG).2, (ee H hH).2]
  unfold free9
  simp only [Bool.and_or_distrib_right, Bool.or_assoc, Bool.and_assoc]
end Mine
end
section
open PySem PySem.W PyProof.Rows
set_option maxRecDepth 100000
namespace Mine
variable {w : World} {hT : Heap}
theorem pk3_cls (a b c : Int) : pk [a, b, c] (some ((1 : Nat) : Int)) (some (2 * ((1 : Nat) : Int))) none = [b] := by
  have e : sliceRange (sliceBounds (some ((1 : Nat) : Int)) (some (2 * ((1 : Nat) : Int))) none 3).1 (sliceBounds (some ((1 : Nat) : Int)) (some (2 * ((1 : Nat) : Int))) none 3).2.1 (sliceBounds (some ((1 : Nat) : Int)) (some (2 * ((1 : Nat) : Int))) none 3).2.2 = [1] := by decide +kernel
  show (sliceRange (sliceBounds (some ((1 : Nat) : Int)) (some (2 * ((1 : Nat) : Int))) none 3).1 (sliceBounds (some ((1 : Nat) : Int)) (some (2 * ((1 : Nat) : Int))) none 3).2.1 (sliceBounds (some ((1 : Nat) : Int)) (some (2 * ((1 : Nat) : Int))) none 3).2.2).filterMap _ = _
  rw [e]; rfl
theorem pk3_deed (a b c : Int) : pk [a, b, c] (some 1) none (some 3) = [b] := by
  have e : sliceRange (sliceBounds (some 1) none (some 3) 3).1 (sliceBounds (some 1) none (some 3) 3).2.1 (sliceBounds (some 1) none (some 3) 3).2.2 = [1] := by decide +kernel
  show (sliceRange (sliceBounds (some 1) none (some 3) 3).1 (sliceBounds (some 1) none (some 3) 3).2.1 (sliceBounds (some 1) none (some 3) 3).2.2).filterMap _ = _
  rw [e]; rfl
theorem fn_free3 (T : Tp w hT) (a0 b0 c0 a1 b1 c1 a2 b2 c2 : Int) : FN PR w hT 106 [lsts [[a0, b0, c0], [a1, b1, c1], [a2, b2, c2]]] (.bool (stepB 3 1 [[a0, b0, c0], [a1, b1, c1], [a2, b2, c2]] fun qs => baseB (mid 1 qs))) 2 := by
  refine fn_free_step T _ _ _ 3 1 1 _ rfl rfl rfl (by decide) (by decide) rfl ?_
  have hm : ∀ ps, ps = clsP 1 [[a0, b0, c0], [a1, b1, c1], [a2, b2, c2]] ∨ ps = deedP [[a0, b0, c0], [a1, b1, c1], [a2, b2, c2]] → mid 1 ps = [[b0], [b1], [b2]] := by
    rintro ps (rfl | rfl)
    · show [pk [a0, b0, c0] (some ((1 : Nat) : Int)) (some (2 * ((1 : Nat) : Int))) none, pk [a1, b1, c1] (some ((1 : Nat) : Int)) (some (2 * ((1 : Nat) : Int))) none, pk [a2, b2, c2] (some ((1 : Nat) : Int)) (some (2 * ((1 : Nat) : Int))) none] = _
      rw [pk3_cls, pk3_cls, pk3_cls]
    · show [pk [a0, b0, c0] (some 1) none (some 3), pk [a1, b1, c1] (some 1) none (some 3), pk [a2, b2, c2] (some 1) none (some 3)] = _
      rw [pk3_deed, pk3_deed, pk3_deed]
  intro ps h
  rw [hm ps h]
  exact fn_free_base T b0 b1 b2
theorem fn_free9 (T : Tp w hT) {F G H : Nat} (hF : F < 512) (hG : G < 512) (hH : H < 512) : FN PR w hT 106 [lsts [bitsL F, bitsL G, bitsL H]] (.bool (free9 F G H)) 3 := by
  rw [← step_free9 hF hG hH]
  refine fn_free_step T _ _ _ 9 3 2 small rfl rfl rfl (by decide) (by decide) rfl ?_
  intro ps h
  have hm : ∃ a b c, mid 1 ps = [b3 a, b3 b, b3 c] := by
    rcases h with rfl | rfl
    · have := allN cls_bits F hF
      have := allN cls_bits G hG
      have := allN cls_bits H hH
      simp only [Bool.and_eq_true, beq_iff_eq] at *
      refine ⟨F / 8 % 8, G / 8 % 8, H / 8 % 8, ?_⟩
      show [pk (bitsL F) (some 3) (some 6) none, pk (bitsL G) (some 3) (some 6) none, pk (bitsL H) (some 3) (some 6) none] = _
      simp_all
    · have := allN deed_bits F hF
      have := allN deed_bits G hG
      have := allN deed_bits H hH
      simp only [Bool.and_eq_true, beq_iff_eq] at *
      refine ⟨th F 1, th G 1, th H 1, ?_⟩
      show [pk (bitsL F) (some 1) none (some 3), pk (bitsL G) (some 1) none (some 3), pk (bitsL H) (some 1) none (some 3)] = _
      simp_all
  obtain ⟨a, b, c, e⟩ := hm
  unfold small
  rw [e]
  exact fn_free3 T _ _ _ _ _ _ _ _ _
end Mine
end
section
open PySem PySem.W PyProof.Rows
set_option maxRecDepth 100000
namespace Mine
noncomputable def rw5 : List Nat := [114, 119, 120, 115, 116]
noncomputable def bitsB (F : Nat) : List Bool := down.map fun i => F.testBit i
/-- the rights that are shown -/
noncomputable def shown (m : Int) : List Bool := (fsigns m).tail.map fun c => rw5.contains c
theorem and_mod (M b : Nat) (hb : b < 4096) : M &&& b = (M % 4096) &&& b := by
  apply Nat.eq_of_testBit_eq
  intro i
  rw [Nat.testBit_and, Nat.testBit_and, show (4096 : Nat) = 2 ^ 12 from rfl, Nat.testBit_mod_two_pow]
  by_cases h : i < 12
  · simp [h]
  · have : b.testBit i = false := Nat.testBit_lt_two_pow (Nat.lt_of_lt_of_le hb (by show 2 ^ 12 ≤ 2 ^ i; exact Nat.pow_le_pow_right (by decide) (by omega)))
    simp [this]
theorem bitAnd_nat (M b : Nat) : Builtin.bitAnd (M : Int) (b : Int) = ((M &&& b : Nat) : Int) := by
  unfold Builtin.bitAnd
  simp
/-- the test of a row but the first one, on the low bits -/
noncomputable def fcN (N b : Nat) : Bool := (N &&& b) == b
theorem fc_nat (i M b : Nat) (hi : i ≠ 0) (hb : b < 4096) : fc i (M : Int) (b : Int) = fcN (M % 4096) b := by
  unfold fc fcN
  rw [if_neg hi, bitAnd_nat, and_mod M b hb]
  rw [Bool.eq_iff_iff, beq_iff_eq, beq_iff_eq]
  exact Int.ofNat_inj
noncomputable def ftabN : List (List (Nat × Nat)) := [[(256, 114)], [(128, 119)], [(2112, 115), (2048, 83), (64, 120)], [(32, 114)], [(16, 119)], [(1032, 115), (1024, 83), (8, 120)], [(4, 114)], [(2, 119)], [(513, 116), (512, 84), (1, 120)]]
noncomputable def fsgN (N : Nat) (row : List (Nat × Nat)) : Nat := match row.find? (fun p => fcN N p.1) with | some p => p.2 | none => 45
theorem fsg_nat (i M : Nat) (hi : i ≠ 0) : ∀ (row : List (Nat × Nat)), (∀ p ∈ row, p.1 < 4096) → fsg i (M : Int) (row.map fun p => ((p.1 : Int), p.2)) = fsgN (M % 4096) row := by
  intro row
  unfold fsg fsgN
  rw [if_neg hi]
  intro h
  have : (row.map fun p => ((p.1 : Int), p.2)).find? (fun p => fc i (M : Int) p.1) = (row.find? fun p => fcN (M % 4096) p.1).map fun p => ((p.1 : Int), p.2) := by
    rw [List.find?_map]
    congr 1
    induction row with
    | nil => rfl
    | cons p l ih =>
      rw [List.find?_cons, List.find?_cons, ih fun q hq => h q (.tail _ hq)]
      have : ((fun p : Int × Nat => fc i (M : Int) p.1) ∘ fun p : Nat × Nat => ((p.1 : Int), p.2)) p = fcN (M % 4096) p.1 := fc_nat i M p.1 hi (h p (.head _))
      rw [this]
  rw [this]
  cases row.find? fun p => fcN (M % 4096) p.1 <;> rfl
theorem fc_two (N i j : Nat) : fcN N (2 ^ i ||| 2 ^ j) = (N.testBit i && N.testBit j) := by
  unfold fcN
  rw [Bool.eq_iff_iff, beq_iff_eq, Bool.and_eq_true]
  constructor
  · intro e
    have h1 := congrArg (Nat.testBit · i) e
    have h2 := congrArg (Nat.testBit · j) e
    simp only [Nat.testBit_and, Nat.testBit_or, Nat.testBit_two_pow_self, Bool.true_or, Bool.or_true, Bool.and_true] at h1 h2
    exact ⟨h1, h2⟩
  · rintro ⟨h1, h2⟩
    apply Nat.eq_of_testBit_eq
    intro k
    rw [Nat.testBit_and, Nat.testBit_or, Nat.testBit_two_pow, Nat.testBit_two_pow]
    by_cases e1 : i = k
    · subst e1; simp [h1]
    · by_cases e2 : j = k
      · subst e2; simp [h2]
      · simp [e1, e2]
theorem fc_bit (N i : Nat) : fcN N (2 ^ i) = N.testBit i := by
  have := fc_two N i i
  rwa [Nat.or_self, Bool.and_self] at this
/-- one right -/
theorem row_one (N i c : Nat) (hc : rw5.contains c = true) : rw5.contains (fsgN N [(2 ^ i, c)]) = N.testBit i := by
  unfold fsgN
  rw [List.find?_cons, fc_bit]
  cases N.testBit i with
  | true => exact hc
  | false => rfl
theorem row_three (N i j c d : Nat) (hc : rw5.contains c = true) (hd : rw5.contains d = false) : rw5.contains (fsgN N [(2 ^ j ||| 2 ^ i, c), (2 ^ j, d), (2 ^ i, 120)]) = N.testBit i := by
  unfold fsgN
  rw [List.find?_cons, List.find?_cons, List.find?_cons, fc_two N j i, fc_bit, fc_bit]
  cases N.testBit i <;> cases N.testBit j
  · rfl
  · exact hd
  · rfl
  · exact hc
theorem shown_low (N : Nat) : (ftabN.map fun row => rw5.contains (fsgN N row)) = bitsB (N % 512) := by
  have hb : ∀ i, i < 9 → (N % 512).testBit i = N.testBit i := fun i hi => by
    rw [show (512 : Nat) = 2 ^ 9 from rfl, Nat.testBit_mod_two_pow]
    simp [hi]
  show [rw5.contains (fsgN N [(2 ^ 8, 114)]), rw5.contains (fsgN N [(2 ^ 7, 119)]), rw5.contains (fsgN N [(2 ^ 11 ||| 2 ^ 6, 115), (2 ^ 11, 83), (2 ^ 6, 120)]), rw5.contains (fsgN N [(2 ^ 5, 114)]), rw5.contains (fsgN N [(2 ^ 4, 119)]), rw5.contains (fsgN N [(2 ^ 10 ||| 2 ^ 3, 115), (2 ^ 10, 83), (2 ^ 3, 120)]),
    rw5.contains (fsgN N [(2 ^ 2, 114)]), rw5.contains (fsgN N [(2 ^ 1, 119)]), rw5.contains (fsgN N [(2 ^ 9 ||| 2 ^ 0, 116), (2 ^ 9, 84), (2 ^ 0, 120)])] = [(N % 512).testBit 8, (N % 512).testBit 7, (N % 512).testBit 6, (N % 512).testBit 5, (N % 512).testBit 4, (N % 512).testBit 3, (N % 512).testBit 2, (N % 512).testBit 1, (N % 512).testBit 0]
  rw [row_one N 8 114 (by decide), row_one N 7 119 (by decide), row_three N 6 11 115 83 (by decide) (by decide), row_one N 5 114 (by decide), row_one N 4 119 (by decide), row_three N 3 10 115 83 (by decide) (by decide), row_one N 2 114 (by decide), row_one N 1 119 (by decide), row_three N 0 9 116 84 (by decide) (by decide)]
  rw [hb 8 (by decide), hb 7 (by decide), hb 6 (by decide), hb 5 (by decide), hb 4 (by decide), hb 3 (by decide), hb 2 (by decide), hb 1 (by decide), hb 0 (by decide)]
theorem shown_eq (M : Nat) : shown (M : Int) = bitsB (M % 512) := by
  have h := shown_low (M % 4096)
  have e : M % 4096 % 512 = M % 512 := Nat.mod_mod_of_dvd M (by decide)
  rw [e] at h
  rw [← h]
  have hb : ∀ row ∈ ftabN, ∀ p ∈ row, p.1 < 4096 := by decide
  have hs : (fsigns (M : Int)).tail = ftabN.map fun row => fsgN (M % 4096) row := by
    show [fsg 1 M _, fsg 2 M _, fsg 3 M _, fsg 4 M _, fsg 5 M _, fsg 6 M _, fsg 7 M _, fsg 8 M _, fsg 9 M _] = _
    rw [show fsg 1 (M : Int) (ftab[1]?.getD []) = fsgN (M % 4096) [(256, 114)] from fsg_nat 1 M (by decide) [(256, 114)] (hb _ (by decide)), show fsg 2 (M : Int) (ftab[2]?.getD []) = fsgN (M % 4096) [(128, 119)] from fsg_nat 2 M (by decide) [(128, 119)] (hb _ (by decide)), show fsg 3 (M : Int) (ftab[3]?.getD []) = fsgN (M % 4096) [(2112, 115), (2048, 83), (64, 120)] from fsg_nat 3 M (by decide) [(2112, 115), (2048, 83), (64, 120)] (hb _ (by decide)), show fsg 4 (M : Int) (ftab[4]?.getD []) = fsgN (M % 4096) [(32, 114)] from fsg_nat 4 M (by decide) [(32, 114)] (hb _ (by decide)), show fsg 5 (M : Int) (ftab[5]?.getD []) = fsgN (M % 4096) [(16, 119)] from fsg_nat 5 M (by decide) [(16, 119)] (hb _ (by decide)), show fsg 6 (M : Int) (ftab[6]?.getD []) = fsgN (M % 4096) [(1032, 115), (1024, 83), (8, 120)] from fsg_nat 6 M (by decide) [(1032, 115), (1024, 83), (8, 120)] (hb _ (by decide)), show fsg 7 (M : Int) (ftab[7]?.getD []) = fsgN (M % 4096) [(4, 114)] from fsg_nat 7 M (by decide) [(4, 114)] (hb _ (by decide)), show fsg 8 (M : Int) (ftab[8]?.getD []) = fsgN (M % 4096) [(2, 119)] from fsg_nat 8 M (by decide) [(2, 119)] (hb _ (by decide)), show fsg 9 (M : Int) (ftab[9]?.getD []) = fsgN (M % 4096) [(513, 116), (512, 84), (1, 120)] from fsg_nat 9 M (by decide) [(513, 116), (512, 84), (1, 120)] (hb _ (by decide))]
    rfl
  unfold shown
  rw [hs, List.map_map]; rfl
end Mine
end
section
set_option maxRecDepth 100000
namespace Mine
noncomputable def rowsL : List Tri := bes (bes [(0, 0, 0)] votesL) votesL
theorem rowsL_W : (rowsL.map fun t => (8 - t.1.toNat, 8 - t.2.1.toNat, 8 - t.2.2.toNat)) = rowsW := by decide +kernel
theorem rowsL_in : (rowsL.all fun t => decide (0 ≤ t.1) && decide (t.1 < 9) && decide (0 ≤ t.2.1) && decide (t.2.1 < 9) && decide (0 ≤ t.2.2) && decide (t.2.2 < 9)) = true := by decide +kernel
end Mine
end
section
open PySem PySem.W PyProof.Rows
set_option maxRecDepth 100000
namespace Mine
/-- the three numbers ahead -/
noncomputable def dfltI : List Int := [3615, 32799, 16399]
noncomputable def srcI (ns : List Int) : List Int := pk ns none (some 3) none ++ pk dfltI (some ((pk ns none (some 3) none).length : Int)) none none
theorem pk_upto3 (l : List Int) : pk l none (some 3) none = l.take 3 := by
  have e3 : ∀ n : Nat, sliceRange (sliceBounds none (some 3) none (n + 3)).1 (sliceBounds none (some 3) none (n + 3)).2.1 (sliceBounds none (some 3) none (n + 3)).2.2 = [0, 1, 2] := by
    intro n
    have : sliceBounds none (some 3) none (n + 3) = (0, 3, 1) := by
      simp [sliceBounds]; omega
    rw [this]; decide +kernel
  have e0 : sliceRange (sliceBounds none (some 3) none 0).1 (sliceBounds none (some 3) none 0).2.1 (sliceBounds none (some 3) none 0).2.2 = [] := by decide +kernel
  have e1 : sliceRange (sliceBounds none (some 3) none 1).1 (sliceBounds none (some 3) none 1).2.1 (sliceBounds none (some 3) none 1).2.2 = [0] := by decide +kernel
  have e2 : sliceRange (sliceBounds none (some 3) none 2).1 (sliceBounds none (some 3) none 2).2.1 (sliceBounds none (some 3) none 2).2.2 = [0, 1] := by decide +kernel
  match l with
  | [] => show (sliceRange (sliceBounds none (some 3) none 0).1 (sliceBounds none (some 3) none 0).2.1 (sliceBounds none (some 3) none 0).2.2).filterMap _ = _; rw [e0]; rfl
  | [a] => show (sliceRange (sliceBounds none (some 3) none 1).1 (sliceBounds none (some 3) none 1).2.1 (sliceBounds none (some 3) none 1).2.2).filterMap _ = _; rw [e1]; rfl
  | [a, b] => show (sliceRange (sliceBounds none (some 3) none 2).1 (sliceBounds none (some 3) none 2).2.1 (sliceBounds none (some 3) none 2).2.2).filterMap _ = _; rw [e2]; rfl
  | a :: b :: c :: r =>
    show (sliceRange (sliceBounds none (some 3) none (r.length + 3)).1 (sliceBounds none (some 3) none (r.length + 3)).2.1 (sliceBounds none (some 3) none (r.length + 3)).2.2).filterMap _ = _
    rw [e3]; rfl
theorem srcI_three (ns : List Int) : ∃ a b c, srcI ns = [a, b, c] := by
  unfold srcI
  rw [pk_upto3]
  match ns with
  | [] => exact ⟨3615, 32799, 16399, by decide +kernel⟩
  | [a] => exact ⟨a, 32799, 16399, by show [a] ++ pk dfltI (some ((1 : Nat) : Int)) none none = _; rw [show pk dfltI (some ((1 : Nat) : Int)) none none = [32799, 16399] by decide +kernel]; rfl⟩
  | [a, b] => exact ⟨a, b, 16399, by show [a, b] ++ pk dfltI (some ((2 : Nat) : Int)) none none = _; rw [show pk dfltI (some ((2 : Nat) : Int)) none none = [16399] by decide +kernel]; rfl⟩
  | a :: b :: c :: r => exact ⟨a, b, c, by show [a, b, c] ++ pk dfltI (some ((3 : Nat) : Int)) none none = _; rw [show pk dfltI (some ((3 : Nat) : Int)) none none = [] by decide +kernel]; rfl⟩
theorem rem32 (x : Int) : ∃ M : Nat, x.fmod (2 ^ (32 : Int).toNat) = (M : Int) ∧ M < 2 ^ 32 := by
  have h1 : (2 : Int) ^ (32 : Int).toNat = 4294967296 := by decide
  rw [h1, Int.fmod_eq_emod_of_nonneg _ (by decide)]
  refine ⟨(x % 4294967296).toNat, ?_, ?_⟩ <;> omega
/-- the text of the rights -/
theorem fsg_lt (i : Nat) (m : Int) (row : List (Int × Nat)) (h : ∀ p ∈ row, p.2 < 128) : fsg i m row < 128 := by
  unfold fsg
  cases hq : row.find? (fun p => fc i m p.1) with
  | some p => exact h p (List.mem_of_find?_eq_some hq)
  | none => dsimp only; split <;> decide
theorem ftab_lt : ∀ row ∈ ftab, ∀ p ∈ row, p.2 < 128 := by decide
theorem fsigns_lt (m : Int) : ∀ c ∈ fsigns m, c < 128 := by
  intro c hc
  unfold fsigns at hc
  obtain ⟨i, hi, rfl⟩ := List.mem_map.mp hc
  have hlt : i < ftab.length := List.mem_range.mp hi
  rw [List.getElem?_eq_getElem hlt, Option.getD_some]
  exact fsg_lt i m _ (ftab_lt _ (List.getElem_mem hlt))
theorem occ_rw5 : ((List.range 128).all fun c => (!(Builtin.Str.occurrences (Str.ofString "rwxst") ⟨#[c]⟩ 0 (Str.ofString "rwxst").length 1).isEmpty) == rw5.contains c) = true := by decide +kernel
theorem tail_made (m : Int) (t : Tok) (u : Tok) : sliceMade ⟨(fsigns m).toArray⟩ t (some (1, u)) none none = .str ⟨(fsigns m).tail.toArray⟩ := by
  obtain ⟨c0, c1, c2, c3, c4, c5, c6, c7, c8, c9, e⟩ : ∃ c0 c1 c2 c3 c4 c5 c6 c7 c8 c9, fsigns m = [c0, c1, c2, c3, c4, c5, c6, c7, c8, c9] := ⟨_, _, _, _, _, _, _, _, _, _, rfl⟩
  rw [e]
  have h : slicePicked ⟨#[c0, c1, c2, c3, c4, c5, c6, c7, c8, c9]⟩ (some (1, u)) none none = [1, 2, 3, 4, 5, 6, 7, 8, 9] := by kernel_rfl
  unfold sliceMade
  rw [h]
  rfl
theorem bits_get (F : Nat) (p : Nat) (hp : p < 9) : (bitsB F)[p]? = some (F.testBit (8 - p)) := by
  match p, hp with
  | 0, _ => rfl
  | 1, _ => rfl
  | 2, _ => rfl
  | 3, _ => rfl
  | 4, _ => rfl
  | 5, _ => rfl
  | 6, _ => rfl
  | 7, _ => rfl
  | 8, _ => rfl
end Mine
end
section
open PySem PySem.W PyProof.Rows
set_option maxRecDepth 100000
namespace Mine
variable {prog : Program} {w : World} {hT : Heap} {A : Around} {X : Addr → Prop} {env : Env} {bs : List (Str × PyData)} {s₀ : Shared}
theorem compTurn_s1 (elt target iter : PySem.Expr) (scope : Scope) (pos : Pos) (it acc : Value) (env : Env) :
    compTurn (.SetComp elt [⟨target, iter, [], 0⟩] scope pos) 0 it acc env = (standAt iter.pos >>= fun _ => pyNext it >>= fun r => match r with
      | none => pure (.done .next)
      | some v => letOwnedTupleGo target it v >>= fun _ => assign target env v >>= fun _ =>
        (eval elt env >>= fun x => standAt elt.pos >>= fun _ => call (.builtin "set.add") [acc, x] >>= fun _ => pure ()) >>= fun _ =>
          again (.compLoop (.SetComp elt [⟨target, iter, [], 0⟩] scope pos) 0 it acc env)) := by rfl
theorem compStart_set {elt target iter : PySem.Expr} {scope : Scope} {pos : Pos} {it acc : Value} {R : Result → Shared → Prop} {s : Shared}
    (h0 : codeAny (model prog w) A (.compLoop (.SetComp elt [⟨target, iter, [], 0⟩] scope pos) 0 it acc env) R s)
    (h : wpAny (model prog w) A (pyIter it) (fun it' s' => codeAny (model prog w) A (.compLoop (.SetComp elt [⟨target, iter, [], 0⟩] scope pos) 0 it' acc env) R s') (notedBy (model prog w) A env fun x s' => R (.error x) s') s) :
    codeAny (model prog w) A (.compStart (.SetComp elt [⟨target, iter, [], 0⟩] scope pos) 0 it acc env) R s := by
  refine codeAny_of_tree ?_
  show wpAny _ _ ((compStart (.SetComp elt [⟨target, iter, [], 0⟩] scope pos) 0 it acc env).onRaise (fun x => do noteFrame x env; standAt theWindowsPlace)) _ _ s
  refine wpAny_notedAt ?_
  unfold compStart
  show wpAny _ _ (ask >>= _) _ _ s
  refine wpAny_bind (wpAny_askSetting (wpAny_ite ?_))
  split
  · first
      | exact wpAny_bind (wpAny_pure (wpAny_pure (And.intro rfl h0)))
      | exact wpAny_pure (And.intro rfl h0)
  · refine wpAny_bind (wpAny_rule ?_)
    show wpAny _ _ (standAt iter.pos >>= _) _ _ s
    exact wpAny_bind (wpAny_standAt (wpAny_bind (wpAny_mono h (fun it' s' h' => wpAny_pure (And.intro rfl h')) fun _ _ x => x)))
theorem new_set {s : Shared} {E : Value → Shared → Prop} {Q : Value → Shared → Prop} (h : Q (.ref s.heap.objs.size) { s with heap := s.heap.push (setObj #[] 0 [] (!byText w)) }) : wpAny (model prog w) A (newSet (.type "set")) Q E s := by
  unfold newSet
  refine wpAny_bind (byText_at ?_)
  dsimp only
  simp only [newObj]
  exact wpAny_bind (wpAny_alloc (wpAny_pure h))
/-- the numbers gathered -/
noncomputable def gathS (vals : List Nat) : List Nat := vals.foldl addS []
theorem gath_sub : ∀ (vals acc : List Nat), Sub8 acc → (∀ v ∈ vals, v < 8) → Sub8 (vals.foldl addS acc)
  | [], _, h, _ => h
  | v :: vals, acc, h, hv => by
    rw [List.foldl_cons]
    exact gath_sub vals _ (addS_sub h (hv v (.head _))) fun u hu => hv u (.tail _ hu)
theorem mem_addS (ks : List Nat) (x k : Nat) : k ∈ addS ks x ↔ k ∈ ks ∨ k = x := by
  unfold addS
  cases hc : ks.contains x with
  | true =>
    rw [if_pos rfl]
    refine ⟨.inl, fun h => h.elim id fun e => e ▸ List.contains_iff_mem.mp hc⟩
  | false =>
    rw [if_neg Bool.false_ne_true]
    have hx : x ∉ ks := fun h => by rw [List.contains_iff_mem.mpr h] at hc; cases hc
    unfold insS
    simp only [List.mem_append, List.mem_cons, List.mem_filter, decide_eq_true_eq]
    constructor
    · rintro (⟨h, _⟩ | rfl | ⟨h, _⟩)
      · exact .inl h
      · exact .inr rfl
      · exact .inl h
    · rintro (h | rfl)
      · have : k ≠ x := fun e => hx (e ▸ h)
        rcases Nat.lt_or_gt_of_ne this with q | q
        · exact .inl ⟨h, q⟩
        · exact .inr (.inr ⟨h, q⟩)
      · exact .inr (.inl rfl)
theorem mem_gath (k : Nat) : ∀ (vals acc : List Nat), k ∈ vals.foldl addS acc ↔ k ∈ acc ∨ k ∈ vals
  | [], acc => by simp
  | v :: vals, acc => by
    rw [List.foldl_cons, mem_gath k vals, mem_addS, List.mem_cons, or_assoc]
/-- y = sorted({elt for target in iter}) -/
theorem sx_told {elt target iter : PySem.Expr} {scope : Scope} {p pos cpos spos py : Pos} {y : Str} {cl : List (Str × Addr)} {cbs : List (Str × PyData)} {ds : List PyData} {tb : PyData → List (Str × PyData)} (vals : List Nat)
    {rest : List PySem.Stmt} {bs' : Bs} {o : Option PyData} (F : FC hT X s₀ env) (hh : A.handled = none) (K : CmpG prog w hT A env bs target scope cl cbs ds tb) (hsrc : SR prog w hT A X env bs iter ds) (hst : StoreAt (PvE env) env y)
    (hg : BN hT (Str.ofString "sorted") (.builtin "sorted")) (hx : env.kindOf (Str.ofString "sorted") = some .globalImplicit) (hv8 : ∀ v ∈ vals, v < 8) (hvl : vals.length = ds.length)
    (helt : ∀ (C : Addr) (Y : Addr → Prop) (i : Nat) (d : PyData) (v : Nat), CL cl C → ds[i]? = some d → vals[i]? = some v → EV prog w hT A Y (cEnv scope cl C env) (tb d) elt (.int (v : Int)))
    (hr : SX prog w A X s₀ env ((y, .list ((gathS vals).map fun (k : Nat) => .int (k : Int))) :: bs) rest bs' o)
    (hsw : swapsWith (.Call (.Name (Str.ofString "sorted") p) [.SetComp elt [⟨target, iter, [], 0⟩] scope pos] [] cpos) (some (.Name y py)) spos.line env = pure false := by rfl) (hs : ∀ x, foldedSetIterable iter env x = pure x := by intro _; rfl)
    (hst1 : starEach [.SetComp elt [⟨target, iter, [], 0⟩] scope pos] env = [(false, eval (.SetComp elt [⟨target, iter, [], 0⟩] scope pos) env)] := by rfl)
    (hne : ∃ x rest, backTo cpos (starEach [.SetComp elt [⟨target, iter, [], 0⟩] scope pos] env) = (false, x) :: rest := by exact ⟨_, _, rfl⟩) (hpl : (backTo cpos (starEach [.SetComp elt [⟨target, iter, [], 0⟩] scope pos] env)).any (·.1) = false := by rfl) :
    SX prog w A X s₀ env bs (.Assign [.Name y py] (.Call (.Name (Str.ofString "sorted") p) [.SetComp elt [⟨target, iter, [], 0⟩] scope pos] [] cpos) spos :: rest) bs' o := by
  refine sx_step F (fun s E Q hsc k hQ => ?_) hr
  have ok := F.ok hsc k
  refine wpAny_Assign_Name (wpAny_Call_Name_kw (nm_builtin hg hx F.glob F.blt ok ?_ (by decide +kernel))) hsw
  refine Calls.callWith_builtin hpl ?_
  obtain ⟨x0, rest0, e0⟩ := hne
  have args : wpAny (model prog w) A (spliced (backTo cpos (starEach [.SetComp elt [⟨target, iter, [], 0⟩] scope pos] env))) (fun vs s' => wpAny (model prog w) A (call (.builtin "sorted") ([] ++ vs) []) (fun v s₁ => wpAny (model prog w) A (storeName env y v) (fun _ => Q .next) E s₁) E s') E s := by
    refine spliced_more ?_ hst1
    rw [arm_eval_SetComp]
    refine wpAny_comprehension_free (use := none) rfl hs K.clos K.kind K.names ?_
    refine comp_coreG (RR := fun acc C => compPost (model prog w) A E none (fun v s₁ => wpAny (model prog w) A (spliced (backTo cpos (starEach [] env))) (fun vs s₂ => wpAny (model prog w) A (call (.builtin "sorted") ([] ++ v :: vs) []) (fun v s₁ => wpAny (model prog w) A (storeName env y v) (fun _ => Q .next) E s₁) E s₂) E s₁) acc C)
        (fun D k h => SetAt h D (!byText w) (gathS (vals.take k))) K hsrc ok (ao := setObj #[] 0 [] (!byText w))
        (stepT := fun acc cenv => eval elt cenv >>= fun x => standAt elt.pos >>= fun _ => call (.builtin "set.add") [acc, x] >>= fun _ => pure ())
        (fun s Q h => new_set h) rfl (fun _ _ _ => rfl) (fun _ _ _ => rfl) (fun _ _ _ => rfl) (fun it acc cenv => compTurn_s1 _ _ _ _ _ it acc cenv) (fun it acc cenv R s h1 h2 => compStart_set h1 h2) ?_ ?_ ?_ ?_ ?_
    · rintro D k h ⟨es, ep, e, _⟩
      exact ⟨_, e, fun _ _ z => (nomatch z), fun _ z => (nomatch z)⟩
    · intro D h e
      exact ⟨#[], 0, e, rfl, fun e he => (nomatch he)⟩
    · rintro D k h h' ⟨es, ep, e, he⟩ c k'
      exact ⟨es, ep, k' _ e, he⟩
    · intro C D i d s₁ E' hCL hd hXD hDL hDC ok₁ kl hL acc
      have hi : i < vals.length := by rw [hvl]; exact (List.getElem?_eq_some_iff.mp hd).1
      refine wpAny_bind (wpAny_mono (helt C (XD X D) i d vals[i] hCL hd (by simp) s₁ E' ok₁) ?_ fun _ _ e => e)
      rintro v s₂ ⟨k₂, r₂⟩
      cases r₂
      refine wpAny_bind (wpAny_standAt ?_)
      obtain ⟨es, ep, eD, he⟩ := acc
      have hsub : Sub8 (gathS (vals.take i)) := gath_sub _ _ Sub8.nil fun u hu => hv8 u (List.mem_of_mem_take hu)
      refine wpAny_bind (set_add (led := !byText w) ⟨es, ep, keeps_grow k₂ _ _ eD, he⟩ hsub (hv8 _ (List.getElem_mem hi)) fun h' hs' hS' => wpAny_pure ⟨s₂, KL.of k₂, ⟨h', _, rfl, fun b o nb e => hs'.extBut b o nb e⟩, ?_, ?_⟩)
      · obtain ⟨es', ep', e', _⟩ := hS'
        exact ⟨_, e'⟩
      · have : gathS (vals.take (i + 1)) = addS (gathS (vals.take i)) vals[i] := by
          unfold gathS
          rw [List.take_add_one, List.getElem?_eq_getElem hi, List.foldl_append]; rfl
        rw [this]
        exact hS'
    · intro D C s' kl hD hC hDC ⟨m, hn⟩ acc
      rw [← hvl, List.take_length] at acc
      refine ⟨m, hn, fun h' hs' => spliced_none ?_⟩
      have hsub : Sub8 (gathS vals) := gath_sub _ _ Sub8.nil hv8
      obtain ⟨mL, cmL, hL, _⟩ := id hsc
      have hCL : C ≠ env.locals := fun q => by
        obtain ⟨o, _, _, e, _⟩ := hL
        rw [q, e] at hC; cases hC
      have mv : Mv (PvE env) s { s' with heap := h' } := by
        obtain ⟨g, t, rfl, kk⟩ := kl.mv (Pv := PvE env) (.inl rfl)
        exact ⟨h', t, rfl, fun b o nb e => hs'.extBut b o (fun q => by subst q; rw [hC] at e; cases e) (kk b o nb e)⟩
      have hnP : ¬ PvE env C := fun q => by
        obtain ⟨m₀, _, hn₀, hc₀, _⟩ := id hsc
        rcases q with q | ⟨n, q⟩
        · exact hCL q
        · obtain ⟨o, e, _⟩ := hc₀ n C q
          rw [hC] at e; cases e
      have sc' : Sc X env bs h' := by
        obtain ⟨m', cm', a, b, c⟩ := kl.sc hL hsc
        have calm : Calm X s'.heap h' := calm_ns hn hs'
        exact ⟨m', cm', a.sameBut hs' fun q => hCL q.symm, fun n c' e => (b n c' e).sameBut hs' (ns_ne_cell hn (b n c' e)).symm, fun x d e => let ⟨v, rv, z⟩ := c x d e; ⟨v, rv.calm calm, z⟩⟩
      have xi' : XI X h' := fun a q => by
        obtain ⟨o, e⟩ := kl.xi ok.xi a q
        by_cases z : a = C
        · subst z
          obtain ⟨o', e'⟩ := ok.xi a q
          rw [hC] at e'; cases e'
        · exact ⟨o, hs'.extBut a o z e⟩
      obtain ⟨es, ep, eD, he⟩ := acc
      refine sorted_set (s := { s' with heap := h' }) hh hsub ⟨es, ep, hs'.extBut D _ hDC eD, he⟩ xi' fun v s₂ k₂ r₂ => ?_
      refine sc_store F.kind (sc'.grow (keeps_grow k₂)) r₂ hst fun s₃ sc₃ mv₃ _ => ?_
      exact hQ s₃ sc₃ (mv.trans ((Mv.of k₂).trans mv₃))
  rw [e0] at args ⊢
  exact Calls.evalArgs_plain args
end Mine
end
section
open PySem PySem.W PyProof.Rows
set_option maxRecDepth 100000
namespace Mine
noncomputable def valT (F G H : Nat) (t : Tri) : Nat := 4 * (F.testBit (8 - t.1.toNat)).toNat + 2 * (G.testBit (8 - t.2.1.toNat)).toNat + (H.testBit (8 - t.2.2.toNat)).toNat
theorem valT_lt (F G H : Nat) (t : Tri) : valT F G H t < 8 := by
  unfold valT
  cases F.testBit (8 - t.1.toNat) <;> cases G.testBit (8 - t.2.1.toNat) <;> cases H.testBit (8 - t.2.2.toNat) <;> decide
/-- the numbers told -/
noncomputable def toldL (F G H : Nat) : List Nat := gathS (rowsL.map (valT F G H))
theorem told_sub (F G H : Nat) : Sub8 (toldL F G H) := gath_sub _ _ Sub8.nil fun v hv => by
  obtain ⟨t, _, rfl⟩ := List.mem_map.mp hv
  exact valT_lt F G H t
theorem told_mem (F G H k : Nat) : k ∈ toldL F G H ↔ ∃ t ∈ rowsL, valT F G H t = k := by
  unfold toldL gathS
  rw [mem_gath]
  simp
theorem valT_eq (F G H : Nat) (t : Tri) : (valT F G H t = 0 ∨ valT F G H t = 7) ↔ (F.testBit (8 - t.1.toNat) = G.testBit (8 - t.2.1.toNat) ∧ G.testBit (8 - t.2.1.toNat) = H.testBit (8 - t.2.2.toNat)) := by
  unfold valT
  cases F.testBit (8 - t.1.toNat) <;> cases G.testBit (8 - t.2.1.toNat) <;> cases H.testBit (8 - t.2.2.toNat) <;> decide
theorem told_round (F G H : Nat) : ((toldL F G H).contains 0 || (toldL F G H).contains 7) = !acycB F G H := by
  have h1 : ((toldL F G H).contains 0 || (toldL F G H).contains 7) = true ↔ ¬ acyc F G H := by
    rw [Bool.or_eq_true, List.contains_iff_mem, List.contains_iff_mem, told_mem, told_mem]
    unfold acyc
    rw [← rowsL_W]
    constructor
    · intro h ha
      obtain ⟨t, ht, hv⟩ : ∃ t ∈ rowsL, valT F G H t = 0 ∨ valT F G H t = 7 := by
        rcases h with ⟨t, ht, e⟩ | ⟨t, ht, e⟩
        · exact ⟨t, ht, .inl e⟩
        · exact ⟨t, ht, .inr e⟩
      exact ha _ (List.mem_map.mpr ⟨t, ht, rfl⟩) ((valT_eq F G H t).mp hv)
    · intro h
      apply Classical.byContradiction
      intro hn
      refine h fun u hu e => hn ?_
      obtain ⟨t, ht, rfl⟩ := List.mem_map.mp hu
      rcases (valT_eq F G H t).mpr e with q | q
      · exact .inl ⟨t, ht, q⟩
      · exact .inr ⟨t, ht, q⟩
  rw [Bool.eq_iff_iff, h1, Bool.not_eq_true', ← acycB_iff]
  simp
/-- the orders due -/
noncomputable def dueL : List Str := [Str.ofString "", Str.ofString "cba", Str.ofString "bac", Str.ofString "bca", Str.ofString "acb", Str.ofString "cab", Str.ofString "abc", Str.ofString ""]
theorem ord_due : ((List.range 8).all fun k => dueL[k]? == some (ordF (k : Int))) = true := by decide +kernel
noncomputable def mergeOk (k : Nat) : Bool := match mergeF 6 (prs.map (prow (k : Int))) [] with
  | some (some l) => JoinOk (Str.ofString "") l
  | some none => true
  | none => false
theorem ord_ok : ((List.range 8).all fun k => mergeOk k && decide ((prs.map (prow (k : Int))).Nodup) && [(4 : Int), 2, 1].all fun w => !Builtin.divisionGoesByPylong (k : Int) w) = true := by decide +kernel
theorem ord_at {k : Nat} (hk : k < 8) : (∃ out, mergeF 6 (prs.map (prow (k : Int))) [] = some out ∧ ∀ l, out = some l → JoinOk (Str.ofString "") l = true) ∧ (prs.map (prow (k : Int))).Nodup ∧ ∀ w ∈ [(4 : Int), 2, 1], Builtin.divisionGoesByPylong (k : Int) w = false := by
  have h := List.all_eq_true.mp ord_ok k (List.mem_range.mpr hk)
  simp only [Bool.and_eq_true, decide_eq_true_eq, List.all_eq_true, Bool.not_eq_true'] at h
  refine ⟨?_, h.1.2, h.2⟩
  have h1 := h.1.1
  unfold mergeOk at h1
  split at h1
  · rename_i l e
    exact ⟨_, e, fun l' e' => by cases e'; exact h1⟩
  · rename_i e
    exact ⟨_, e, fun l' e' => nomatch e'⟩
  · cases h1
noncomputable def strsD (l : List Str) : PyData := .list (l.map .str)
noncomputable def ordsL (ks : List Nat) : List Str := ks.map fun (k : Nat) => dueL.getD k ⟨#[]⟩
theorem due_str : (dueL.all fun x => PyData.strOk x && PyData.eqv (.str x) (.str x)) = true := by decide +kernel
theorem due_none : ((List.range 8).all fun k => PyData.eqv (.str (dueL.getD k ⟨#[]⟩)) (.str (Str.ofString "")) == (k == 0 || k == 7)) = true := by decide +kernel
theorem due_at {k : Nat} (h : k < 8) : PyData.strOk (dueL.getD k ⟨#[]⟩) = true ∧ PyData.eqv (.str (dueL.getD k ⟨#[]⟩)) (.str (dueL.getD k ⟨#[]⟩)) = true := by
  have hl : k < dueL.length := h
  have := List.all_eq_true.mp due_str (dueL.getD k ⟨#[]⟩) (by
    rw [List.getD_eq_getElem?_getD, List.getElem?_eq_getElem hl]; exact List.getElem_mem hl)
  rw [Bool.and_eq_true] at this
  exact this
theorem canAll_strs : ∀ l : List Str, (∀ x ∈ l, PyData.strOk x = true) → PyData.canLayAll0 (l.map PyData.str) = true
  | [], _ => rfl
  | a :: l, h => by
    show (PyData.canLay0 (.str a) && PyData.canLayAll0 (l.map PyData.str)) = true
    rw [canAll_strs l fun x hx => h x (.tail _ hx), Bool.and_true]
    simp [PyData.canLay0, h a (.head _)]
theorem depthAll_strs : ∀ l : List Str, PyData.depthAll (l.map PyData.str) ≤ 1
  | [] => by simp [PyData.depthAll]
  | a :: l => by
    have := depthAll_strs l
    simp only [List.map_cons, PyData.depthAll, PyData.depth]
    omega
theorem shaped_strs (l : List Str) (h : ∀ x ∈ l, PyData.strOk x = true) : SeqAt.shaped (strsD l) = true := by
  unfold SeqAt.shaped strsD
  have := depthAll_strs l
  simp only [Bool.and_eq_true, decide_eq_true_eq]
  exact ⟨canAll_strs l h, by simp only [PyData.depth]; omega⟩
theorem eqvAll_strs : ∀ l : List Str, (∀ x ∈ l, PyData.eqv (.str x) (.str x) = true) → PyData.eqvAll (l.map PyData.str) (l.map PyData.str) = true
  | [], _ => by simp [PyData.eqvAll]
  | a :: l, h => by
    have h1 := eqvAll_strs l fun x hx => h x (.tail _ hx)
    have h2 := h a (.head _)
    simp only [List.map_cons, PyData.eqvAll, h1, h2, Bool.and_self]
theorem ords_facts {ks : List Nat} (h : Sub8 ks) : SeqAt.shaped (strsD (ordsL ks)) = true ∧ PyData.eqv (strsD (ordsL ks)) (strsD (ordsL ks)) = true ∧ (((ordsL ks).map PyData.str).any fun y => PyData.eqv y (.str (Str.ofString ""))) = (ks.contains 0 || ks.contains 7) := by
  have hm : ∀ x ∈ ordsL ks, PyData.strOk x = true ∧ PyData.eqv (.str x) (.str x) = true := fun x hx => by
    obtain ⟨k, hk, rfl⟩ := List.mem_map.mp hx
    exact due_at (h.2 k hk)
  refine ⟨shaped_strs _ fun x hx => (hm x hx).1, ?_, ?_⟩
  · unfold strsD
    simp only [PyData.eqv, eqvAll_strs _ fun x hx => (hm x hx).2]
  · have key : ∀ l : List Nat, (∀ k ∈ l, k < 8) → (((ordsL l).map PyData.str).any fun y => PyData.eqv y (.str (Str.ofString ""))) = (l.contains 0 || l.contains 7) := by
      intro l
      induction l with
      | nil => intro _; rfl
      | cons a l ih =>
        intro hl
        have h1 := ih fun k hk => hl k (.tail _ hk)
        have h2 := eq_of_beq (List.all_eq_true.mp due_none a (List.mem_range.mpr (hl a (.head _))))
        show (PyData.eqv (.str (dueL.getD a ⟨#[]⟩)) (.str (Str.ofString "")) || ((ordsL l).map PyData.str).any fun y => PyData.eqv y (.str (Str.ofString ""))) = _
        rw [h1, h2, List.contains_cons, List.contains_cons]
        have e : ∀ n : Nat, (a == n) = (n == a) := fun n => by rw [Bool.eq_iff_iff, beq_iff_eq, beq_iff_eq]; exact eq_comm
        rw [e 0, e 7]
        cases (0 == a) <;> cases (7 == a) <;> cases l.contains 0 <;> cases l.contains 7 <;> rfl
    exact key ks h.2
end Mine
end
section
open PySem PySem.W PyProof.Rows
set_option maxRecDepth 100000
set_option maxHeartbeats 4000000
namespace Mine
variable {w : World} {hT : Heap} {A : Around} {X : Addr → Prop} {env : Env} {bs : List (Str × PyData)}
/-- a call without arguments -/
theorem ev_call0 {fn : Str} {p pos : Pos} {a : Addr} {d : PyData} {k : Nat} (hg : GN hT fn (.ref a)) (hx : env.kindOf fn = some .globalImplicit) (hgl : env.globals = mainGlobals)
    (hf : FN PR w hT a [] d k) (hA : ARoom k A) (hfd : ∃ o fd, hT.get? a = some o ∧ o.data = .func fd) (hst : backTo pos (starEach [] env) = [] := by rfl) (hd : (fn == ("__debug__" : Str)) = false := by decide) :
    EV PR w hT A X env bs (.Call (.Name fn p) [] [] pos) d := by
  intro s E ok
  refine wpAny_Call_Name_kw (nm_global hg hx hgl ok ?_ hd)
  obtain ⟨o, fd, ho, hfd⟩ := hfd
  refine Calls.callWith_function (o := o) (fd := fd) ?_
  rw [hst]
  refine PySem.evalArgs_none ⟨⟨ok.top _ _ ho, hfd⟩, ?_⟩
  exact wpAny_call (hf A X s _ [] hA ok.top ok.xi .nil fun v s₂ k₂ r₂ => ⟨k₂, r₂⟩)
noncomputable def fRem : PyData → PyData
  | .int x => .int (x.fmod (2 ^ (32 : Int).toNat))
  | _ => .none
noncomputable def fSign : PyData → PyData
  | .str s => .bool (!(Builtin.Str.occurrences (Str.ofString "rwxst") s 0 (Str.ofString "rwxst").length 1).isEmpty)
  | _ => .none
noncomputable def boolsD (l : List Bool) : PyData := .list (l.map .bool)
noncomputable def fShown : PyData → PyData
  | .int m => boolsD (shown m)
  | _ => .none
theorem fSign_map (m : Int) : (signs ⟨(fsigns m).tail.toArray⟩).map fSign = (shown m).map .bool := by
  unfold signs shown
  rw [List.map_map, List.map_map]
  refine List.map_congr_left fun c hc => ?_
  have hlt : c < 128 := fsigns_lt m c (List.mem_of_mem_tail hc)
  show PyData.bool (!(Builtin.Str.occurrences (Str.ofString "rwxst") ⟨#[c]⟩ 0 (Str.ofString "rwxst").length 1).isEmpty) = _
  rw [eq_of_beq (List.all_eq_true.mp occ_rw5 c (List.mem_range.mpr hlt))]; rfl
noncomputable def accR (i : Nat) : PyData := .list ((match i with | 0 => [(0, 0, 0)] | 1 => bes [(0, 0, 0)] votesL | _ => rowsL : List Tri).map tri)
theorem fn_reduceR (T : Tp w hT) : FN PR w hT 70 [opq 94, .list [.list (votesL.map tri), .list (votesL.map tri)], .list ([(0, 0, 0)].map tri)] (.list (rowsL.map tri)) 2 := by
  refine fn_reduce T accR [.list (votesL.map tri), .list (votesL.map tri)] _ rfl ?_
  intro i e he
  match i, he with
  | 0, he => simp at he; subst he; exact fn_beside T [(0, 0, 0)] votesL (by decide +kernel) (by decide +kernel)
  | 1, he => simp at he; subst he; exact fn_beside T (bes [(0, 0, 0)] votesL) votesL (by decide +kernel) (by decide +kernel)
end Mine
end
section
open PySem PySem.W PyProof.Rows
set_option maxRecDepth 100000
set_option maxHeartbeats 4000000
namespace Mine
variable {prog : Program} {w : World} {hT : Heap}
/-- a def called from outside all frames -/
theorem fn_intro1 {a : Addr} {o : Obj} {fd : FuncData} {body : List PySem.Stmt} {ps : List Str} {ds : List PyData} {d : PyData} {k : Nat} (ho : hT.get? a = some o) (hdata : o.data = .func fd) (hlim : hT.NoLimit) (hcd : hT.CodeRec fd.code fd.qualname)
    (hbody : fd.body = .stmts body) (hclo : fd.closure = []) (hglob : fd.globals = mainGlobals) (hblt : fd.builtins = builtinsNs)
    (hbind : ∀ (s : Shared) (vals : List Value), Grow hT s.heap → vals.length = ps.length → BindsTo s fd ⟨vals, []⟩ (ps.zip vals))
    (hkind : ∀ n, ∀ x ∈ ps, fd.scope.names.lookup x = some .local ∨ (fd.scope.names.lookup x = some .cell ∧ ((cellsFrom n fd.scope.names []).lookup x).isSome = true)) (hlen : ds.length = ps.length)
    (main : ∀ (A : Around) (s₀ : Shared) (L : Addr), ARoom k A → A.frames = some [callEnvC fd L a] → hT.get? L = none → FC hT Xno s₀ (callEnvC fd L a) → ST prog w A Xno s₀ (callEnvC fd L a) (ps.zip ds).reverse body d)
    (hco : fd.scope.isCoroutine = false := by rfl) (hgen : fd.scope.isGenerator = false := by rfl) (hk : fd.scope.kind = .function := by rfl) :
    ∀ (A : Around) (s : Shared) (R : Result → Shared → Prop) (vals : List Value), ARoom (k + 1) A → A.frames = some [] → Grow hT s.heap → RpL Xno s.heap vals ds → (∀ v s', Keeps s s' → Rp Xno s'.heap v d → R (.ok (.ret v)) s') → codeAny (model prog w) A (.call (.ref a) ⟨vals, []⟩) R s := by
  intro A s R vals hA hfr top hr hR
  have hlv := hr.length
  refine fn_enter (X := Xno) ho hdata hlim hcd hbody hclo hglob hblt (hbind s vals top (by omega)) hkind hlen hA top (fun _ q => q.elim) hr ?_ hco hgen hk
  intro s₁ hA' F hsc k
  have hLT : hT.get? s.heap.objs.size = none := by
    cases z : hT.get? s.heap.objs.size with
    | none => rfl
    | some o => exact absurd (Heap.lt_size (top _ _ z)) (Nat.lt_irrefl _)
  refine wpAny_mono (main _ s s.heap.objs.size hA' (Around.frames_deeper hfr) hLT F s₁ _ hsc k) ?_ fun _ _ e => e
  rintro fl s₂ ⟨v, rfl, k₂, r₂⟩
  exact hR v s₂ k₂ r₂
theorem by_memA {P : Str → Addr → Prop} {l : List (Str × Addr)} (h : ∀ p ∈ l, P p.1 p.2) : ∀ x d, l.lookup x = some d → P x d := fun x d e => h (x, d) (PySem.mem_of_lookup e)
theorem bool_item {F : Nat} {p : Int} (h0 : 0 ≤ p) (h9 : p < 9) : ((bitsB F).map PyData.bool)[p.toNat]? = some (.bool (F.testBit (8 - p.toNat))) := by
  rw [List.getElem?_map, bits_get F p.toNat (by omega)]; rfl
theorem b2i_toNat (b : Bool) : b2i b = (b.toNat : Int) := by cases b <;> rfl
theorem row_in {t : Tri} (h : t ∈ rowsL) : 0 ≤ t.1 ∧ t.1 < 9 ∧ 0 ≤ t.2.1 ∧ t.2.1 < 9 ∧ 0 ≤ t.2.2 ∧ t.2.2 < 9 := by
  have := List.all_eq_true.mp rowsL_in t h
  simp only [Bool.and_eq_true, decide_eq_true_eq] at this
  exact ⟨this.1.1.1.1.1, this.1.1.1.1.2, this.1.1.1.2, this.1.1.2, this.1.2, this.2⟩
noncomputable def fOrd : PyData → PyData
  | .int n => .str (ordF n)
  | _ => .none
theorem ords_map {ks : List Nat} (h : ∀ k ∈ ks, k < 8) : PyData.list ((ks.map fun (k : Nat) => PyData.int (k : Int)).map fOrd) = strsD (ordsL ks) := by
  unfold strsD ordsL
  rw [List.map_map, List.map_map]
  congr 1
  refine List.map_congr_left fun k hk => ?_
  have := eq_of_beq (List.all_eq_true.mp ord_due k (List.mem_range.mpr (h k hk)))
  show PyData.str (ordF (k : Int)) = .str (dueL.getD k ⟨#[]⟩)
  rw [List.getD_eq_getElem?_getD, this]; rfl
noncomputable def fDue : PyData → PyData
  | .int n => .str (dueL.getD n.toNat ⟨#[]⟩)
  | _ => .none
theorem due_map (ks : List Nat) : PyData.list ((ks.map fun (k : Nat) => PyData.int (k : Int)).map fDue) = strsD (ordsL ks) := by
  unfold strsD ordsL
  rw [List.map_map, List.map_map]
  rfl
noncomputable def fRule : PyData → PyData
  | .int m => lst (bitsL (m.toNat % 512))
  | _ => .none
noncomputable def fBit (M : Nat) : PyData → PyData
  | .int i => .int (((M : Int).fdiv (2 ^ (8 - i).toNat)).fmod 2)
  | _ => .none
theorem pow_small {i : Nat} (h : i < 9) : 1 ≤ (2 : Int) ^ ((8 : Int) - (i : Int)).toNat ∧ (2 : Int) ^ ((8 : Int) - (i : Int)).toNat ≤ 256 := by
  have : ∀ i : Nat, i < 9 → 1 ≤ (2 : Int) ^ ((8 : Int) - (i : Int)).toNat ∧ (2 : Int) ^ ((8 : Int) - (i : Int)).toNat ≤ 256 := by decide
  exact this i h
theorem bit_map (M : Nat) : PyData.list ((upto 9).map (fBit M)) = lst (bitsL (M % 512)) := by
  have e : ∀ (i n : Nat) (q : Int), (2 : Int) ^ ((8 : Int) - (i : Int)).toNat = q → q = (n : Int) → 0 < n → ((M : Int).fdiv ((2 : Int) ^ ((8 : Int) - (i : Int)).toNat)).fmod 2 = ((M / n % 2 : Nat) : Int) := by
    intro i n q h1 h2 h3
    rw [h1, h2, Int.fdiv_eq_ediv_of_nonneg _ (by omega), Int.fmod_eq_emod_of_nonneg _ (by decide)]
    simp
  show PyData.list [.int (((M : Int).fdiv ((2 : Int) ^ ((8 : Int) - ((0 : Nat) : Int)).toNat)).fmod 2), .int (((M : Int).fdiv ((2 : Int) ^ ((8 : Int) - ((1 : Nat) : Int)).toNat)).fmod 2), .int (((M : Int).fdiv ((2 : Int) ^ ((8 : Int) - ((2 : Nat) : Int)).toNat)).fmod 2), .int (((M : Int).fdiv ((2 : Int) ^ ((8 : Int) - ((3 : Nat) : Int)).toNat)).fmod 2), .int (((M : Int).fdiv ((2 : Int) ^ ((8 : Int) - ((4 : Nat) : Int)).toNat)).fmod 2),
    .int (((M : Int).fdiv ((2 : Int) ^ ((8 : Int) - ((5 : Nat) : Int)).toNat)).fmod 2), .int (((M : Int).fdiv ((2 : Int) ^ ((8 : Int) - ((6 : Nat) : Int)).toNat)).fmod 2), .int (((M : Int).fdiv ((2 : Int) ^ ((8 : Int) - ((7 : Nat) : Int)).toNat)).fmod 2), .int (((M : Int).fdiv ((2 : Int) ^ ((8 : Int) - ((8 : Nat) : Int)).toNat)).fmod 2)] = _
  rw [e 0 256 256 (by decide) rfl (by decide), e 1 128 128 (by decide) rfl (by decide), e 2 64 64 (by decide) rfl (by decide), e 3 32 32 (by decide) rfl (by decide), e 4 16 16 (by decide) rfl (by decide), e 5 8 8 (by decide) rfl (by decide), e 6 4 4 (by decide) rfl (by decide), e 7 2 2 (by decide) rfl (by decide), e 8 1 1 (by decide) rfl (by decide)]
  have f : ∀ n k : Nat, n * k = 512 → 2 ∣ k → M / n % 2 = M % 512 / n % 2 := fun n k h h2 => by
    rw [← h, Nat.mod_mul_right_div_self, Nat.mod_mod_of_dvd _ h2]
  rw [f 256 2 rfl ⟨1, rfl⟩, f 128 4 rfl ⟨2, rfl⟩, f 64 8 rfl ⟨4, rfl⟩, f 32 16 rfl ⟨8, rfl⟩, f 16 32 rfl ⟨16, rfl⟩, f 8 64 rfl ⟨32, rfl⟩, f 4 128 rfl ⟨64, rfl⟩, f 2 256 rfl ⟨128, rfl⟩, f 1 512 rfl ⟨256, rfl⟩, Nat.div_one]
  rfl
theorem lt63 {p : Int} (h : p < 9) : p < 2 ^ 63 := by omega
theorem mil {n : Nat} (h : n ≤ 1000) : n ≤ 1000000 := Nat.le_trans h (by decide)
theorem mil8 {n : Nat} (h : n ≤ 8) : n ≤ 1000000 := Nat.le_trans h (by decide)
theorem map_mil {α β : Type} {l : List α} {f : α → β} (h : l.length ≤ 1000) : (l.map f).length ≤ 1000000 := by rw [List.length_map]; exact mil h
theorem tail_len (m : Int) : (fsigns m).tail.length ≤ 1000000 := Nat.le_trans (Nat.le_of_eq (show (fsigns m).tail.length = 9 from rfl)) (by decide)
theorem shift_ok {i : Nat} (h : i < 9) : 0 ≤ (8 : Int) - (i : Int) ∧ (8 : Int) - (i : Int) ≤ 1000000 ∧ (2 : Int) ^ ((8 : Int) - (i : Int)).toNat ≠ 0 ∧ ((2 : Int) ^ ((8 : Int) - (i : Int)).toNat).natAbs < 1073741824 := by
  have := pow_small h
  refine ⟨by omega, by omega, by omega, by omega⟩
theorem cat_len {a b : Nat} (h : a + b ≤ 1000) : a + b ≤ 1000000 := mil h
/-- the numbers -/
theorem numbers_eq (ns : List Int) {a b c : Int} (e : srcI ns = [a, b, c]) : ((srcI ns).map PyData.int).map fRem = [.int (a.fmod (2 ^ (32 : Int).toNat)), .int (b.fmod (2 ^ (32 : Int).toNat)), .int (c.fmod (2 ^ (32 : Int).toNat))] := by
  rw [e]; rfl
theorem src_eq (ns : List Int) : PyData.list (pick (ns.map .int) none (some 3) none ++ pick (dfltI.map .int) (some ((pick (ns.map .int) none (some 3) none).length : Int)) none none) = .list ((srcI ns).map .int) := by
  unfold srcI
  rw [pick_map, pick_map, List.map_append, List.length_map]
/-- a slice of a list of ints that stands at the top -/
theorem ev_slice_top {A : Around} {X : Addr → Prop} {env : Env} {bs : List (Str × PyData)} {value : PySem.Expr} {lo hi st : Option PySem.Expr} {p pos : Pos} {la : Addr} {vs : List Value} {ns : List Int} {a b c : Option Int} (hv : EV prog w hT A X env bs value (opq la)) (hL : hT.IsList la vs.toArray) (hI : IntsAre vs ns)
    (ha : EVP prog w hT A X env bs lo a) (hb : EVP prog w hT A X env bs hi b) (hc : EVP prog w hT A X env bs st c) (h0 : c ≠ some 0) (hl : ns.length ≤ 1000000) :
    EV prog w hT A X env bs (.Subscript value (.Slice lo hi st p) pos) (.list (pick (ns.map .int) a b c)) := by
  intro s E ok
  refine sub_any (wpAny_mono (hv s E ok) ?_ fun _ _ e => e)
  rintro o s₁ ⟨k1, r1⟩
  cases rp_opq r1
  have ok1 := ok.keeps k1
  refine wpAny_Slice (wpAny_mono (ha s₁ E ok1) ?_ fun _ _ e => e)
  rintro va s₂ ⟨k2, p2⟩
  have ok2 := ok1.keeps k2
  refine wpAny_mono (hb s₂ E ok2) ?_ fun _ _ e => e
  rintro vb s₃ ⟨k3, p3⟩
  have ok3 := ok2.keeps k3
  refine wpAny_mono (hc s₃ E ok3) ?_ fun _ _ e => e
  rintro vc s₄ ⟨k4, p4⟩
  have ok4 := ok3.keeps k4
  have k5 : Keeps s₄ { s₄ with heap := s₄.heap.push { cls := .type "slice", data := .fields #[va, vb, vc] } } := ⟨_, s₄.toks, rfl, grow_push _ _⟩
  have ok5 := ok4.keeps k5
  obtain ⟨o, e1, hcl, n, hd⟩ := hL
  have e5 := ok5.top _ _ e1
  have r1 : RpL X (s₄.heap.push { cls := .type "slice", data := .fields #[va, vb, vc] }) vs.toArray.toList (ns.map .int) := by rw [List.toList_toArray]; exact rp_ints hI
  have l1 := r1.length
  rw [List.length_map, Array.length_toList] at l1
  refine ⟨⟨"list", _, ⟨_, e5, hcl⟩, slot_list_getitem.lookup⟩, wpAny_getItem_list_slice ⟨_, e5, hcl, _, hd⟩ (Heap.IsSliceOf.new _ _ _ _) p2 p3 p4 h0 ?_ (by rw [l1]; show _ ≤ 2 ^ 24; omega)⟩
  have g := rp_new ok5.xi (r1.pick a b c)
  exact ⟨keeps_trans k1 (keeps_trans k2 (keeps_trans k3 (keeps_trans k4 (keeps_trans k5 g.1)))), g.2⟩
theorem law_call (T : Tp w hT) {la : Addr} {vs : List Value} (ns : List Int) (hL : hT.IsList la vs.toArray) (hI : IntsAre vs ns) (hn : ns.length ≤ 1000) : ∀ (A : Around) (s : Shared) (R : Result → Shared → Prop) (vals : List Value), ARoom 4 A → A.frames = some [] → Grow hT s.heap → RpL Xno s.heap vals [opq la] →
    (∀ v s', Keeps s s' → Rp Xno s'.heap v (.bool true) → R (.ok (.ret v)) s') → codeAny (model PR w) A (.call (.ref 111) ⟨vals, []⟩) R s := by
  refine fn_intro1 (ps := [Str.ofString "script"]) (T.k 111 _ rfl) rfl T.lim (codeRec_of T.k (by rfl)) rfl rfl rfl rfl ?_ ?_ rfl ?_
  · rintro s vals _ hl
    obtain ⟨v, rfl⟩ := len1 hl
    exact .of_eq rfl
  · intro n x hx; simp at hx; subst hx; exact .inl rfl
  intro A s₀ L hA hfr hLT F
  have hh := hA.1
  have hu := hA.cl
  have hA' : ARoom 2 A := hA.less (by decide)
  have hu64 : A.units + 64 < cLine := Nat.lt_of_succ_lt hu
  refine SX.st (bs' := []) ?_
  obtain ⟨n0, n1, n2, hsrc⟩ := srcI_three ns
  have hl3 : (srcI ns).length ≤ 1000 := by rw [hsrc]; simp
  have hp3 : (pick (ns.map PyData.int) none (some 3) none).length ≤ 3 := by
    rw [pick_map, List.length_map, pk_upto3, List.length_take]; exact Nat.min_le_left _ _
  have hlenS : ns.length ≤ 1000000 := mil hn
  -- numbers
  refine sx_compA (cl := []) (cbs := []) (ds := (srcI ns).map .int) (tb := fun d => [(Str.ofString "x", d)]) (f := fRem) F
    { clos := rfl, kind := rfl, names := by decide +kernel, cells := (fun n c e => by cases e), cap := (fun C x d e => by cases e), asg := ?_, weak := (fun d hd x e q => by cases q), elt := ?_, len := map_mil hl3 } (sr_list hh (ev_eq (ev_bin
      (ev_slice_top (ev_name (d := opq la) rfl) hL hI evp_none (evp_some ev_int) evp_none (by simp) hlenS)
      (ev_slice (xs := dfltI.map .int) (ev_list (evl_cons ev_int (evl_cons ev_int (evl_cons ev_int evl_nil))) (by decide)) (evp_some (ev_len T.bn.1 rfl F.glob F.blt (ev_slice_top (ev_name (d := opq la) rfl) hL hI evp_none (evp_some ev_int) evp_none (by simp) hlenS) (Nat.le_trans hp3 (by decide)))) evp_none evp_none (by simp) (by decide))
      (op_cat ?_)) (src_eq ns))) (F.storeL rfl) ?_
  · intro C Y hC d hd
    exact asg_local rfl rfl
  · intro C Y hC d hd
    obtain ⟨x, _, rfl⟩ := List.mem_map.mp hd
    exact ev_bin (ev_name (d := .int x) rfl) (ev_bin ev_int ev_int (op_pow (by decide) (by decide) (by decide))) (op_mod (by decide))
  · have h1 := congrArg List.length (PyData.list.inj (src_eq ns))
    rw [List.length_append, List.length_map] at h1
    exact Nat.le_trans (Nat.le_of_eq h1) (mil hl3)
  rw [numbers_eq ns hsrc]
  obtain ⟨M0, e0, h0⟩ := rem32 n0
  obtain ⟨M1, e1, h1⟩ := rem32 n1
  obtain ⟨M2, e2, h2⟩ := rem32 n2
  rw [e0, e1, e2]
  -- f, g, h
  refine sx_unpack [(Str.ofString "f", _), (Str.ofString "g", _), (Str.ofString "h", _)] (ds := [boolsD (bitsB (M0 % 512)), boolsD (bitsB (M1 % 512)), boolsD (bitsB (M2 % 512))]) F hh (ev_eq (ev_comp (cl := []) (cbs := []) (ds := [M0, M1, M2].map fun (M : Nat) => .int (M : Int)) (tb := fun d => [(Str.ofString "x", d)]) (f := fShown)
    { clos := rfl, kind := rfl, names := by decide +kernel, cells := (fun n c e => by cases e), cap := (fun C x d e => by cases e), asg := ?_, weak := (fun d hd x e q => by cases q), elt := ?_, len := by simp } (sr_list hh (ev_name rfl))) ?_) rfl rfl rfl ?_ ?_
  · intro C Y hC d hd
    exact asg_local rfl rfl
  · intro C Y hC d hd
    obtain ⟨M, _, rfl⟩ := List.mem_map.mp hd
    refine ev_eq (d := .list ((signs ⟨(fsigns (M : Int)).tail.toArray⟩).map fSign)) ?_ (by rw [fSign_map]; rfl)
    refine ev_comp (cl := []) (cbs := []) (tb := fun d => [(Str.ofString "sign", d)])
      { clos := rfl, kind := rfl, names := by decide +kernel, cells := (fun n c e => by cases e), cap := (fun C x d e => by cases e), asg := ?_, weak := (fun d hd x e q => by cases q), elt := ?_, len := ?_ }
      (sr_str hh ?_ (ev_slice_str (ev_call T.gn.2.1 rfl F.glob (fn_filemode T (M : Int)) hA' ⟨_, _, T.k 61 _ rfl, rfl⟩ (evl_cons (ev_name (d := .int (M : Int)) rfl) evl_nil)) ev_int (fun t u => tail_made _ t u) ?_))
    · intro C' Y' hC' d' hd'
      exact asg_local rfl rfl
    · intro C' Y' hC' d' hd'
      obtain ⟨c, _, rfl⟩ := List.mem_map.mp hd'
      exact ev_cmp (ev_name (d := .str ⟨#[c]⟩) rfl) ev_str op_in_str
    · unfold signs
      rw [List.length_map, List.toList_toArray]
      exact tail_len _
    · rw [← Array.all_toList, List.all_eq_true]
      intro c hc
      rw [List.toList_toArray] at hc
      exact decide_eq_true (fsigns_lt _ c (List.mem_of_mem_tail hc))
    · show (fsigns (M : Int)).tail.toArray.size ≤ _
      rw [List.size_toArray]
      exact tail_len _
  · show PyData.list [boolsD (shown (M0 : Int)), boolsD (shown (M1 : Int)), boolsD (shown (M2 : Int))] = _
    rw [shown_eq, shown_eq, shown_eq]
  · intro x hx; simp at hx; rcases hx with rfl | rfl | rfl
    · exact F.storeC (c := L + 1) rfl rfl
    · exact F.storeC (c := L + 2) rfl rfl
    · exact F.storeC (c := L + 3) rfl rfl
  have hF : M0 % 512 < 512 := Nat.mod_lt _ (by decide)
  have hG : M1 % 512 < 512 := Nat.mod_lt _ (by decide)
  have hH : M2 % 512 < 512 := Nat.mod_lt _ (by decide)
  -- votes, rows
  refine sx_assign F (ev_call0 T.gn.2.2.2.2.2.1 rfl F.glob (fn_votes T) hA' ⟨_, _, T.k 89 _ rfl, rfl⟩) (F.storeL rfl) ?_
  refine sx_assign F (ev_call T.gn.2.2.1 rfl F.glob (fn_reduceR T) hA' ⟨_, _, T.k 70 _ rfl, rfl⟩ (evl_cons (ev_global T.gn.2.2.2.2.2.2.1 rfl F.glob) (evl_cons (ev_list (evl_cons (ev_name (d := .list (votesL.map tri)) rfl) (evl_cons (ev_name (d := .list (votesL.map tri)) rfl) evl_nil)))
    (evl_cons (ev_list (evl_cons (ev_tuple (evl_cons ev_int (evl_cons ev_int (evl_cons ev_int evl_nil)))) evl_nil)) evl_nil)))) (F.storeL rfl) ?_
  -- told
  refine sx_told (rowsL.map (valT (M0 % 512) (M1 % 512) (M2 % 512))) (cl := [(Str.ofString "h", L + 3), (Str.ofString "g", L + 2), (Str.ofString "f", L + 1)]) (cbs := [(Str.ofString "f", boolsD (bitsB (M0 % 512))), (Str.ofString "g", boolsD (bitsB (M1 % 512))), (Str.ofString "h", boolsD (bitsB (M2 % 512)))])
    (ds := rowsL.map tri) (tb := tbP [(Str.ofString "f", boolsD (bitsB (M0 % 512))), (Str.ofString "g", boolsD (bitsB (M1 % 512))), (Str.ofString "h", boolsD (bitsB (M2 % 512)))]) F hh
    { clos := rfl, kind := rfl, names := by decide +kernel, cells := ?_, cap := ?_, asg := ?_, weak := ?_, hTL := hLT } (sr_list hh (ev_name rfl)) (F.storeL rfl) T.bn.2.2.1 rfl ?_ ?_ ?_ ?_
  · refine by_memA (P := fun n c => _) ?_
    intro p hp
    simp at hp
    rcases hp with rfl | rfl | rfl <;> rfl
  · intro C
    refine by_mem (P := fun x d => _) ?_
    intro p hp
    simp at hp
    rcases hp with rfl | rfl | rfl <;> exact ⟨rfl, .inl rfl, .inl rfl, rfl⟩
  · intro C Y hC d hd
    obtain ⟨t, _, rfl⟩ := List.mem_map.mp hd
    exact asg_tup [(Str.ofString "p", _), (Str.ofString "q", _), (Str.ofString "r", _)] hh rfl rfl rfl rfl (by intro x hx; simp at hx; rcases hx with rfl | rfl | rfl <;> rfl)
  · intro d hd x e q
    obtain ⟨t, _, rfl⟩ := List.mem_map.mp hd
    exact weak_cons rfl x e (weak_cons rfl x e (weak_cons rfl x e q))
  · intro v hv
    obtain ⟨t, _, rfl⟩ := List.mem_map.mp hv
    exact valT_lt _ _ _ t
  · simp
  · intro C Y i d v hC hd hv
    rw [List.getElem?_map] at hd hv
    cases ht : rowsL[i]? with
    | none => rw [ht] at hd; cases hd
    | some t =>
      rw [ht] at hd hv; cases hd; cases hv
      obtain ⟨a0, a9, b0, b9, c0, c9⟩ := row_in (List.mem_of_getElem? ht)
      refine ev_eq (ev_bin (ev_bin (ev_bin ev_int (ev_item (ev_name (d := boolsD (bitsB (M0 % 512))) rfl) (ev_name (d := .int t.1) rfl) a0 (lt63 a9) (bool_item a0 a9)) op_mul_ib)
        (ev_bin ev_int (ev_item (ev_name (d := boolsD (bitsB (M1 % 512))) rfl) (ev_name (d := .int t.2.1) rfl) b0 (lt63 b9) (bool_item b0 b9)) op_mul_ib) op_add)
        (ev_item (ev_name (d := boolsD (bitsB (M2 % 512))) rfl) (ev_name (d := .int t.2.2) rfl) c0 (lt63 c9) (bool_item c0 c9)) op_add_ib) ?_
      rw [b2i_toNat, b2i_toNat, b2i_toNat]
      unfold valT
      congr 1
  have hks := told_sub (M0 % 512) (M1 % 512) (M2 % 512)
  have hround := told_round (M0 % 512) (M1 % 512) (M2 % 512)
  show SX PR w A Xno s₀ _ ((Str.ofString "told", .list ((toldL (M0 % 512) (M1 % 512) (M2 % 512)).map fun (k : Nat) => .int (k : Int))) :: _) _ _ _
  generalize toldL (M0 % 512) (M1 % 512) (M2 % 512) = ks at hks hround ⊢
  obtain ⟨hk8, _, hlt8, _⟩ := sub_facts hks true
  obtain ⟨hshape, heqv, hany⟩ := ords_facts hks
  -- orders
  refine sx_compK (cl := []) (cbs := []) (ds := ks.map fun (k : Nat) => .int (k : Int)) (tb := fun d => [(Str.ofString "number", d)]) (f := fOrd) F
    { clos := rfl, kind := rfl, names := by decide +kernel, cells := (fun n c e => by cases e), cap := (fun C x d e => by cases e), asg := ?_, weak := (fun d hd x e q => by cases q), hTL := hLT } (sr_list hh (ev_name rfl)) (F.storeL rfl) ((map_mil (Nat.le_trans hk8 (by decide)))) ?_ ?_
  · intro C Y hC d hd
    exact asg_local rfl rfl
  · intro C D d s₁ E hCL hd ok₁ hL hDn
    obtain ⟨k, hk, rfl⟩ := List.mem_map.mp hd
    obtain ⟨hm, hnd, hpl⟩ := ord_at (hlt8 k hk)
    refine wpAny_Call_Name_kw (nm_global T.gn.2.2.2.2.2.2.2.1 rfl F.glob ok₁ ?_)
    refine Calls.callWith_function (args_evl (evl_cons (ev_name (d := .int (k : Int)) rfl) evl_nil) ok₁ ⟨_, _, rfl⟩ fun vs s₂ k₂ r₂ => ⟨⟨ok₁.top.trans (keeps_grow k₂) _ _ (T.k 101 _ rfl), rfl⟩, ?_⟩)
    cases r₂ with
    | cons r r2 =>
    cases r2
    cases r with
    | int _ t =>
    obtain ⟨mL, hL⟩ := hL
    have hL₂ := hL.keeps (keeps_grow k₂)
    obtain ⟨oL, _, _, eL, dL, _⟩ := id hL₂
    refine wpAny_call (order_call T (k : Int) _ hm hpl hnd hA' hfr ⟨(by intro z; cases z), ⟨L, oL, rfl, hLT, eL, fun vs z => by rw [dL] at z; cases z⟩, trivial⟩ ?_ (ok₁.top.trans (keeps_grow k₂)) ?_)
    · intro a ha
      rw [List.filterMap_cons] at ha
      rcases List.mem_cons.mp ha with rfl | ha
      · exact ⟨mL, hL₂⟩
      · cases ha
    · rintro v s₃ ⟨h', tk, rfl⟩ kx r₃
      refine ⟨(KL.of k₂).trans ⟨h', tk, rfl, fun b o e => ?_⟩, ?_⟩
      · obtain ⟨sl, q1, q2⟩ := kx b o id e
        refine ⟨fun n => ?_, fun _ => ⟨sl, q1⟩⟩
        have : sl = o.slots := q2 fun hm => by
          rw [List.filterMap_cons] at hm
          rcases List.mem_cons.mp hm with z | z
          · exact n z
          · cases z
        rw [q1, this]
      · cases r₃; exact .str _ _
  rw [ords_map hlt8]
  -- due
  refine sx_assign F (ev_eq (d' := strsD dueL) (ev_list (evl_cons ev_str (evl_cons ev_str (evl_cons ev_str (evl_cons ev_str (evl_cons ev_str (evl_cons ev_str (evl_cons ev_str (evl_cons ev_str evl_nil))))))))) rfl) (F.storeC (c := L + 4) rfl rfl) ?_
  -- the orders are those due
  refine sx_if (c := false) (o₁ := some (.bool false)) F (tr_eq (tr_cmp (ev_name (d := strsD (ordsL ks)) rfl) (ev_eq (ev_comp (cl := [(Str.ofString "due", L + 4)]) (cbs := [(Str.ofString "due", strsD dueL)]) (ds := ks.map fun (k : Nat) => .int (k : Int)) (tb := fun d => [(Str.ofString "number", d), (Str.ofString "due", strsD dueL)]) (f := fDue)
    { clos := rfl, kind := rfl, names := by decide +kernel, cells := ?_, cap := ?_, asg := ?_, weak := (fun d hd => weak_cons rfl), elt := ?_, len := (map_mil (Nat.le_trans hk8 (by decide))) } (sr_list hh (ev_name rfl))) (due_map ks)) (op_ne hshape hshape hu64)) (by rw [heqv]; rfl)) (fun q => by cases q) (fun q => by cases q) fun _ => ?_
  · refine by_memA (P := fun n c => _) ?_
    intro p hp
    simp at hp
    subst hp; rfl
  · intro C
    refine by_mem (P := fun x d => _) ?_
    intro p hp
    simp at hp
    subst hp; exact ⟨rfl, .inl rfl, .inl rfl, rfl⟩
  · intro C Y hC d hd
    exact asg_local rfl rfl
  · intro C Y hC d hd
    obtain ⟨k, hk, rfl⟩ := List.mem_map.mp hd
    have hk8' := hlt8 k hk
    refine ev_item (xs := dueL.map .str) (ev_name (d := strsD dueL) rfl) (ev_name (d := .int (k : Int)) rfl) (Int.natCast_nonneg k) (lt63 (by omega)) ?_
    rw [Int.toNat_natCast, List.getElem?_map]
    have : k < dueL.length := hk8'
    show _ = some (PyData.str (dueL.getD k ⟨#[]⟩))
    rw [List.getD_eq_getElem?_getD, List.getElem?_eq_getElem this]; rfl
  -- rules
  refine sx_compA (cl := []) (cbs := []) (ds := [M0, M1, M2].map fun (M : Nat) => .int (M : Int)) (tb := fun d => [(Str.ofString "x", d)]) (f := fRule) F
    { clos := rfl, kind := rfl, names := by decide +kernel, cells := (fun n c e => by cases e), cap := (fun C x d e => by cases e), asg := ?_, weak := (fun d hd x e q => by cases q), elt := ?_, len := by simp } (sr_list hh (ev_name rfl)) (F.storeL rfl) ?_
  · intro C Y hC d hd
    exact asg_cell rfl rfl rfl hC
  · intro C Y hC d hd
    obtain ⟨M, hM, rfl⟩ := List.mem_map.mp hd
    refine ev_eq (d := .list ((upto 9).map (fBit M))) ?_ (bit_map M)
    refine ev_comp (cl := [(Str.ofString "x", C + 1)]) (cbs := [(Str.ofString "x", .int (M : Int))]) (tb := fun d => [(Str.ofString "p", d), (Str.ofString "x", .int (M : Int))])
      { clos := rfl, kind := rfl, names := by decide +kernel, cells := ?_, cap := ?_, asg := ?_, weak := (fun d hd => weak_cons rfl), elt := ?_, len := by simp [upto] } (sr_range hh T.bn.2.1 rfl F.glob F.blt ev_int (by decide) (by decide))
    · refine by_memA (P := fun n c => _) ?_
      intro p hp
      simp at hp
      subst hp; rfl
    · intro C'
      refine by_mem (P := fun x d => _) ?_
      intro p hp
      simp at hp
      subst hp; exact ⟨rfl, .inl rfl, .inl rfl, rfl⟩
    · intro C' Y' hC' d' hd'
      exact asg_local rfl rfl
    · intro C' Y' hC' d' hd'
      obtain ⟨i, hi, rfl⟩ := List.mem_map.mp hd'
      have hi9 : i < 9 := List.mem_range.mp hi
      have hsh := shift_ok hi9
      exact ev_bin (ev_bin (ev_name (d := .int (M : Int)) rfl) (ev_bin ev_int (ev_bin ev_int (ev_name (d := .int (i : Int)) rfl) op_sub) (op_pow hsh.1 hsh.2.1 (by decide))) (op_fdiv hsh.2.2.1 (PyProof.noPylong_small hsh.2.2.2))) ev_int (op_mod (by decide))
  -- the answer
  refine sx_ret F (ev_eq (ev_cmp (ev_cmp ev_str (ev_name (d := strsD (ordsL ks)) rfl) (op_in (by decide +kernel) hshape hu)) (ev_call T.gn.2.2.2.2.2.2.2.2.1 rfl F.glob (fn_free9 T hF hG hH) hA ⟨_, _, T.k 106 _ rfl, rfl⟩ (evl_cons (ev_name (d := lsts [bitsL (M0 % 512), bitsL (M1 % 512), bitsL (M2 % 512)]) ?_) evl_nil)) (op_ne rfl rfl hu64)) ?_)
  · rfl
  · rw [hany, hround, plain_law hF hG hH]
    cases free9 (M0 % 512) (M1 % 512) (M2 % 512) <;> rfl
end Mine
end
section
open PySem PySem.W PyProof.Rows
set_option maxRecDepth 100000
set_option maxHeartbeats 8000000
namespace Mine
theorem law_holds : PySem.Challenge.rw_oy0096_01.Holds := by
  refine hd ?_
  intro w s₀ s₁ mg mb G Y fa o pm cd doc dV kV ho ho2 hcd hD hmg hg args vals as hpre hlay hrd hwl hlo
  have KX := kIn_of Y
  have GL := Ground.glob G (by decide +kernel) (by decide +kernel)
  have hfa : fa = 111 := by
    have e1 : mg (Str.ofString "law") = some (.ref 111) := mg_of KX GL.g (by rfl)
    have e2 : mg (Str.ofString "law") = some (.ref fa) := hmg
    rw [e1] at e2
    exact (Value.ref.inj (Option.some.inj e2)).symm
  have T : Tp w s₁.heap := ⟨KX, GL.nolimit, ⟨mb, GL.b, GL.builtins⟩⟩
  subst hfa
  clear ho2 hcd hD ho Y G GL hmg
  wrow_args hpre hlay hrd hwl hlo
  rename_i ns _ _ _ _ _ _ _ la vs _ hL _ _ _ hI _ hlen _
  refine enter_call ?_
  refine law_call T ns hL hI (by omega) callerA s₁ _ [.ref la] ⟨rfl, by decide, by decide⟩ rfl (Grow.refl _) (.cons (.opq la) .nil) ?_
  rintro v s' ⟨h', tk, rfl, k⟩ r
  cases r
  refine ⟨.inl ⟨_, _, [], rfl, fun _ => rfl, ReadsW.bool true, ?_, fun _ => ⟨List.nodup_nil, fun _ hm => (nomatch hm)⟩⟩, .of_keep k, rfl, .of_eq hg⟩
  first | rfl | wrow_post
end Mine
end
theorem PySem.Challenge.cw_oy0096_01_holds : PySem.Challenge.rw_oy0096_01.Holds :=
  Mine.law_holds
