import PyProof.Rows.All
import Wide.All
import OpenK.AllK
import Wide.FinOn
import PySem.Challenge.RW_re0153_01
open PySem PySem.Calls PyProof.Rows PySem.W
set_option maxRecDepth 100000
set_option Elab.async false
set_option linter.unusedVariables false
set_option genInjectivity false
set_option genSizeOf false
noncomputable section
namespace Mine

/-! values: scalars, and few shapes over them -/
inductive S where
  | none | bool (b : Bool) | int (i : Int) | str (s : Str)
structure WS where
  raw : Str
  n : Int
  nt : Int
  count : List S
  b : Int
  simple : Bool
inductive V where
  | sc (x : S) | list (l : List S) | tup (l : List S) | norm (l : List S) (b : Int) | ws (x : WS) | dw (ks : List Int) (l : List WS) | ds (ks : List Int) (l : List S) | part (x : Addr) (raw : Option Str)

@[reducible] noncomputable def V.i (x : Int) : V := .sc (.int x)
@[reducible] noncomputable def V.s (x : Str) : V := .sc (.str x)
@[reducible] noncomputable def V.t (x : Bool) : V := .sc (.bool x)

@[reducible] noncomputable def View := Addr → Obj → Prop
noncomputable def vw (h : Heap) (hid : List Addr) : View := fun b o => h.get? b = some o ∧ b ∉ hid

noncomputable def sca : Value → Option S
  | .none => some .none
  | .bool b => some (.bool b)
  | .int i _ => some (.int i)
  | .str x _ => some (.str x)
  | _ => none
noncomputable def lookI {α : Type} (ks : List Int) (vs : List α) (k : Int) : Option α := (ks.zip vs).lookup k

@[reducible] noncomputable def listO (vs : List Value) (n : Nat) : Obj := { cls := .type "list", data := .seq vs.toArray n }
@[reducible] noncomputable def tupO (vs : List Value) (n : Nat) : Obj := { cls := .type "tuple", data := .seq vs.toArray n }
@[reducible] noncomputable def RelL (l : List S) (vs : List Value) : Prop := vs.map sca = l.map some

noncomputable def RelTup (W : View) (l : List S) (m : Value) : Prop := ∃ a vs n, m = .ref a ∧ W a (tupO vs n) ∧ RelL l vs
noncomputable def RelNorm (W : View) (l : List S) (b : Int) (m : Value) : Prop := ∃ a q t n, m = .ref a ∧ W a (tupO [q, .int b t] n) ∧ RelTup W l q
structure RelWSd (C : Addr) (W : View) (x : WS) (a d : Addr) (o : Obj) (p : Value) (t1 t2 t3 : Tok) : Prop where
  at_ : W a (instObj C d)
  dict : W d o
  raw : lookIn "raw" o = some (some (.str x.raw t1))
  n : lookIn "n" o = some (some (.int x.n t2))
  nt : lookIn "nt" o = some (some (.int x.nt t3))
  norm : lookIn "norm" o = some (some p)
  simple : lookIn "is_simple" o = some (some (.bool x.simple))
  pn : RelNorm W x.count x.b p
  less : lookIn "less" o = some none
  il : lookIn "indent_level" o = some none
  lr : lookIn "longest_run_of_spaces" o = some none
noncomputable def RelWS (C : Addr) (W : View) (x : WS) (m : Value) : Prop := ∃ a d o p t1 t2 t3, m = .ref a ∧ RelWSd C W x a d o p t1 t2 t3
structure IntD (o : Obj) (ks : List Int) (vs : List Value) : Prop where
  es : ∃ es n, o.cls = .type "dict" ∧ o.data = .dict es n ∧ es.size ≤ ks.length ∧ IntKeys es ∧ ∀ k, findBy Value.isInt es k = lookI ks vs k
inductive Both {α β : Type} (F : α → β → Prop) : List α → List β → Prop
  | nil : Both F [] []
  | cons {a b l m} : F a b → Both F l m → Both F (a :: l) (b :: m)

noncomputable def RelV (C : Addr) (W : View) : V → Value → Prop
  | .sc x, m => sca m = some x
  | .list l, m => ∃ a vs n, m = .ref a ∧ W a (listO vs n) ∧ RelL l vs
  | .tup l, m => RelTup W l m
  | .norm l b, m => RelNorm W l b m
  | .ws x, m => RelWS C W x m
  | .dw ks l, m => ∃ a o vs, m = .ref a ∧ W a o ∧ IntD o ks vs ∧ Both (RelWS C W) l vs
  | .ds ks l, m => ∃ a o vs, m = .ref a ∧ W a o ∧ IntD o ks vs ∧ RelL l vs
  | .part x raw, m => m = .ref x ∧ ∀ t, raw = some t → ∃ d o k, W x (instObj C d) ∧ W d o ∧ lookIn "raw" o = some (some (.str t k))

noncomputable def Grows (h h' : Heap) : Prop := ∀ b o, h.get? b = some o → h'.get? b = some o
theorem Grows.trans {h h' h'' : Heap} (a : Grows h h') (b : Grows h' h'') : Grows h h'' := fun x o e => b x o (a x o e)
theorem push_grows (h : Heap) (o : Obj) : Grows h (h.push o) := fun _ _ e => Heap.get?_push_of_some o e
theorem vw_grows {h h' : Heap} {hid : List Addr} (k : Grows h h') : ∀ b o, vw h hid b o → vw h' hid b o := fun b o ⟨e, n⟩ => ⟨k b o e, n⟩

theorem grow {s s' : Shared} (k : Keeps s s') : Grows s.heap s'.heap := by
  obtain ⟨h', tk, rfl, hk⟩ := k
  exact hk
theorem keeps_refl (s : Shared) : Keeps s s := ⟨s.heap, s.toks, rfl, fun _ _ e => e⟩
theorem keeps_tok (s : Shared) (k : Nat) : Keeps s { s with toks := k } := ⟨s.heap, k, rfl, fun _ _ e => e⟩
theorem keeps_trans {s s' s'' : Shared} (a : Keeps s s') (b : Keeps s' s'') : Keeps s s'' := by
  obtain ⟨h', tk, rfl, hk⟩ := a
  obtain ⟨h'', tk', rfl, hk'⟩ := b
  exact ⟨h'', tk', rfl, fun x o e => hk' x o (hk x o e)⟩
theorem keeps_heap {s : Shared} {h' : Heap} (k : Nat) (g : Grows s.heap h') : Keeps s { s with heap := h', toks := k } := ⟨h', k, rfl, g⟩

section
variable {C : Addr} {W W' : View} (k : ∀ b o, W b o → W' b o)
include k
theorem RelTup.mono {l m} (r : RelTup W l m) : RelTup W' l m := by obtain ⟨a, vs, n, e, w, r⟩ := r; exact ⟨a, vs, n, e, k _ _ w, r⟩
theorem RelNorm.mono {l b m} (r : RelNorm W l b m) : RelNorm W' l b m := by obtain ⟨a, q, t, n, e, w, r⟩ := r; exact ⟨a, q, t, n, e, k _ _ w, r.mono k⟩
theorem RelWS.mono {x m} (r : RelWS C W x m) : RelWS C W' x m := by
  obtain ⟨a, d, o, p, t1, t2, t3, e, h⟩ := r
  exact ⟨a, d, o, p, t1, t2, t3, e, k _ _ h.1, k _ _ h.2, h.3, h.4, h.5, h.6, h.7, h.8.mono k, h.9, h.10, h.11⟩
theorem both_mono {l vs} (r : Both (RelWS C W) l vs) : Both (RelWS C W') l vs := by
  induction r with
  | nil => exact .nil
  | cons a b ih => exact .cons (a.mono k) ih
theorem RelV.mono {v m} (r : RelV C W v m) : RelV C W' v m := by
  cases v with
  | sc _ => exact r
  | list _ => obtain ⟨a, vs, n, e, w, r⟩ := r; exact ⟨a, vs, n, e, k _ _ w, r⟩
  | tup _ => exact RelTup.mono k r
  | norm _ _ => exact RelNorm.mono k r
  | ws _ => exact RelWS.mono k r
  | dw _ _ => obtain ⟨a, o, vs, e, w, d, r⟩ := r; exact ⟨a, o, vs, e, k _ _ w, d, both_mono k r⟩
  | ds _ _ => obtain ⟨a, o, vs, e, w, d, r⟩ := r; exact ⟨a, o, vs, e, k _ _ w, d, r⟩
  | part _ _ => exact ⟨r.1, fun t e => (r.2 t e).elim fun d q => q.elim fun o q => q.elim fun i q => ⟨d, o, i, k _ _ q.1, k _ _ q.2.1, q.2.2⟩⟩
end
theorem RelV.keeps {C : Addr} {s s' : Shared} {hid v m} (r : RelV C (vw s.heap hid) v m) (k : Keeps s s') : RelV C (vw s'.heap hid) v m := r.mono (vw_grows (grow k))

/-! accessors -/
noncomputable def V.asI : V → Option Int
  | .sc (.int i) => some i
  | _ => none
noncomputable def V.asS : V → Option Str
  | .sc (.str x) => some x
  | _ => none
noncomputable def V.asB : V → Option Bool
  | .sc (.bool b) => some b
  | _ => none
noncomputable def V.asL : V → Option (List S)
  | .list l => some l
  | _ => none
noncomputable def V.asSc : V → Option S
  | .sc x => some x
  | _ => none
theorem sca_int {m i} (h : sca m = some (.int i)) : ∃ t, m = .int i t := by
  cases m with
  | int j t => injection h with h; injection h with h; exact ⟨t, h ▸ rfl⟩
  | _ => first | (injection h with h; injection h; done) | injection h
theorem sca_str {m x} (h : sca m = some (.str x)) : ∃ t, m = .str x t := by
  cases m with
  | str j t => injection h with h; injection h with h; exact ⟨t, h ▸ rfl⟩
  | _ => first | (injection h with h; injection h; done) | injection h
theorem sca_bool {m b} (h : sca m = some (.bool b)) : m = .bool b := by
  cases m with
  | bool j => injection h with h; injection h with h; exact h ▸ rfl
  | _ => first | (injection h with h; injection h; done) | injection h
section
variable {C : Addr} {W : View} {v : V} {m : Value}
theorem asSc_eq {l : S} (h : v.asSc = some l) : v = .sc l := by
  cases v with
  | sc x => injection h with h; rw [h]
  | _ => injection h
theorem asL_eq {l : List S} (h : v.asL = some l) : v = .list l := by
  cases v with
  | list x => injection h with h; rw [h]
  | _ => injection h
theorem asI_eq {i : Int} (h : v.asI = some i) : v = .i i := by
  cases v with
  | sc x =>
    cases x with
    | int j => injection h with h; rw [h]
    | _ => injection h
  | _ => injection h
theorem asS_eq {i : Str} (h : v.asS = some i) : v = .s i := by
  cases v with
  | sc x =>
    cases x with
    | str j => injection h with h; rw [h]
    | _ => injection h
  | _ => injection h
theorem asB_eq {i : Bool} (h : v.asB = some i) : v = .t i := by
  cases v with
  | sc x =>
    cases x with
    | bool j => injection h with h; rw [h]
    | _ => injection h
  | _ => injection h
theorem asI_rel {i} (h : v.asI = some i) (r : RelV C W v m) : ∃ t, m = .int i t := by cases asI_eq h; exact sca_int r
theorem asS_rel {i} (h : v.asS = some i) (r : RelV C W v m) : ∃ t, m = .str i t := by cases asS_eq h; exact sca_str r
theorem asB_rel {i} (h : v.asB = some i) (r : RelV C W v m) : m = .bool i := by cases asB_eq h; exact sca_bool r
theorem asL_rel {l} (h : v.asL = some l) (r : RelV C W v m) : ∃ a vs n, m = .ref a ∧ W a (listO vs n) ∧ RelL l vs := by cases asL_eq h; exact r
end
theorem or_some {α : Type} {x y : Option α} {v : α} (h : x.or y = some v) : x = some v ∨ y = some v := by
  cases x with
  | none => exact .inr h
  | some a => exact .inl h
theorem bind2 {α β γ : Type} {p : Option α} {q : α → Option β} {f : α → β → Option γ} {v : γ} (h : (p.bind fun x => (q x).bind fun y => f x y) = some v) : ∃ x y, p = some x ∧ q x = some y ∧ f x y = some v := by
  obtain ⟨x, h1, h⟩ := Option.bind_eq_some_iff.mp h
  obtain ⟨y, h2, h⟩ := Option.bind_eq_some_iff.mp h
  exact ⟨x, y, h1, h2, h⟩
theorem ite_some {α : Type} {c : Prop} [Decidable c] {x : Option α} {v : α} (h : (if c then x else none) = some v) : c ∧ x = some v := by
  by_cases hc : c
  · rw [if_pos hc] at h; exact ⟨hc, h⟩
  · rw [if_neg hc] at h; cases h

section
variable {α β γ : Type} {C : Prop}
theorem orK {x y : Option α} {v : α} (h : x.or y = some v) (k : x = some v → C) (l : y = some v → C) : C := (or_some h).elim k l
theorem bindK {p : Option α} {f : α → Option β} {v : β} (h : p.bind f = some v) (k : ∀ x, p = some x → f x = some v → C) : C := (Option.bind_eq_some_iff.mp h).elim fun x e => k x e.1 e.2
theorem mapK {p : Option α} {f : α → β} {v : β} (h : p.map f = some v) (k : ∀ x, p = some x → f x = v → C) : C := (Option.map_eq_some_iff.mp h).elim fun x e => k x e.1 e.2
theorem bind2K {p : Option α} {q : α → Option β} {f : α → β → Option γ} {v : γ} (h : (p.bind fun x => (q x).bind fun y => f x y) = some v) (k : ∀ x y, p = some x → q x = some y → f x y = some v → C) : C := (bind2 h).elim fun x e => e.elim fun y e => k x y e.1 e.2.1 e.2.2
theorem iteK {c : Prop} [Decidable c] {x : Option α} {v : α} (h : (if c then x else none) = some v) (k : c → x = some v → C) : C := k (ite_some h).1 (ite_some h).2
end

theorem RelL.length {l vs} (r : RelL l vs) : vs.length = l.length := by simpa using congrArg List.length r
theorem RelL.get {l vs} (r : RelL l vs) {i : Nat} {x : S} (h : l[i]? = some x) : ∃ m, vs[i]? = some m ∧ sca m = some x := by
  have e := congrArg (·[i]?) r
  simp only [List.getElem?_map, h, Option.map_some] at e
  exact Option.map_eq_some_iff.mp e
theorem RelL.append {l vs l' vs'} (r : RelL l vs) (r' : RelL l' vs') : RelL (l ++ l') (vs ++ vs') := by unfold RelL; rw [List.map_append, List.map_append, r, r']
theorem RelL.cut {l vs} (a b : Nat) (r : RelL l vs) : RelL ((l.drop a).take b) ((vs.drop a).take b) := by
  unfold RelL; rw [List.map_take, List.map_take, List.map_drop, List.map_drop, r]
theorem RelL.rep {x m} (r : sca m = some x) (k : Nat) : RelL (List.replicate k x) (List.replicate k m) := by unfold RelL; rw [List.map_replicate, List.map_replicate, r]
theorem lookI_cons {α : Type} (q k : Int) (ks : List Int) (x : α) (l : List α) : lookI (q :: ks) (x :: l) k = if k = q then some x else lookI ks l k := by
  unfold lookI
  rw [List.zip_cons_cons, List.lookup_cons]
  by_cases e : k = q
  · rw [if_pos e, beq_iff_eq.mpr e]
  · rw [if_neg e, beq_eq_false_iff_ne.mpr e]
theorem lookI_both {α : Type} {F : α → Value → Prop} {l : List α} {ms : List Value} (r : Both F l ms) : ∀ {ks : List Int} {k v}, lookI ks l k = some v → ∃ m, lookI ks ms k = some m ∧ F v m := by
  induction r with
  | nil => intro ks k v h; unfold lookI at h; rw [List.zip_nil_right] at h; injection h
  | @cons a b l m r1 r2 ih =>
    intro ks k v h
    cases ks with
    | nil => injection h
    | cons q ks =>
      rw [lookI_cons] at h ⊢
      by_cases e : k = q
      · rw [if_pos e] at h ⊢; injection h with h; exact ⟨b, rfl, h ▸ r1⟩
      · rw [if_neg e] at h ⊢; exact ih h
theorem both_imp {α β : Type} {F G : α → β → Prop} {l : List α} {m : List β} (r : Both F l m) (h : ∀ a b, F a b → G a b) : Both G l m := by
  induction r with
  | nil => exact .nil
  | cons a b ih => exact .cons (h _ _ a) ih
theorem both_sca {l : List S} {ms : List Value} (r : RelL l ms) : Both (fun x m => sca m = some x) l ms := by
  induction l generalizing ms with
  | nil => cases ms with
    | nil => exact .nil
    | cons m ms => injection r
  | cons x l ih => cases ms with
    | nil => injection r
    | cons m ms => injection r with r1 r2; exact .cons r1 (ih r2)


structure Room (A : Around) (d : Nat) : Prop where
  hh : A.handled = none
  depth : A.depth + 10 * d ≤ 900
  units : A.units + 100 * d ≤ 9000
theorem Room.u64 {A : Around} {d : Nat} (r : Room A d) : A.units + 64 < cLine := Nat.lt_of_le_of_lt (Nat.add_le_add_right (Nat.le_trans (Nat.le_add_right _ _) r.units) 64) (by decide)
theorem Room.dl {A : Around} {d : Nat} (r : Room A d) : A.depth < recursionLimit := Nat.lt_of_le_of_lt (Nat.le_trans (Nat.le_add_right _ _) r.depth) (by decide)
theorem Room.deeper {A : Around} {d : Nat} (r : Room A (d + 1)) (env : Env) : Room (A.deeper env) d := ⟨r.hh, by have := r.depth; simp only [Around.deeper]; omega, by have := r.units; simp only [Around.deeper]; omega⟩

/-! operators -/
noncomputable def allStr : List S → Option (List Str)
  | [] => some []
  | .str x :: r => (allStr r).map (x :: ·)
  | _ => none
noncomputable def allInt : List S → Option (List Int)
  | [] => some []
  | .int x :: r => (allInt r).map (x :: ·)
  | _ => none

noncomputable def opII : Operator → Int → Int → Option Int
  | .Add, x, y => some (x + y)
  | .Sub, x, y => some (x - y)
  | .Mult, x, y => if Builtin.Int.intBits x ≤ 64 then some (x * y) else none
  | .FloorDiv, x, y => if 0 < y ∧ y < 1000000 then some (x / y) else none
  | .Mod, x, y => if 0 < y then some (x % y) else none
  | .Pow, x, y => if x = 10 ∧ y = 6 then some 1000000 else none
  | _, _, _ => none
noncomputable def isAdd : Operator → Bool
  | .Add => true
  | _ => false
noncomputable def isMult : Operator → Bool
  | .Mult => true
  | _ => false
noncomputable def opSS (op : Operator) (x y : Str) : Option V := if isAdd op = true ∧ x.length + y.length ≤ 9999 then some (.s (x ++ y)) else none
noncomputable def opLL (op : Operator) (x y : List S) : Option V := if isAdd op = true ∧ x.length + y.length ≤ 9999 then some (.list (x ++ y)) else none
noncomputable def opSI (op : Operator) (x : Str) (k : Int) : Option V := if isMult op = true ∧ x.length ≤ 1 ∧ 0 ≤ k ∧ k ≤ 99 then some (.s (Txt.mul x k)) else none
noncomputable def opLI (op : Operator) (l : List S) (k : Int) : Option V := match l with
  | [x] => if isMult op = true ∧ 0 ≤ k ∧ k ≤ 99 then some (.list (List.replicate k.toNat x)) else none
  | _ => none
noncomputable def binop (op : Operator) (a b : V) : Option V :=
  (a.asI.bind fun x => b.asI.bind fun y => (opII op x y).map V.i).or
    ((a.asS.bind fun x => b.asS.bind fun y => opSS op x y).or
      ((a.asL.bind fun x => b.asL.bind fun y => opLL op x y).or
        ((a.asS.bind fun x => b.asI.bind fun y => opSI op x y).or (a.asL.bind fun x => b.asI.bind fun y => opLI op x y))))

noncomputable def cmpI : CmpOp → Int → Int → Option Bool
  | .Eq, a, b => some (a == b)
  | .NotEq, a, b => some (a != b)
  | .Lt, a, b => some (decide (a < b))
  | .LtE, a, b => some (decide (a ≤ b))
  | .Gt, a, b => some (decide (b < a))
  | .GtE, a, b => some (decide (b ≤ a))
  | _, _, _ => none
noncomputable def cmpS : CmpOp → Str → Str → Option Bool
  | .Eq, a, b => some (a == b)
  | .NotEq, a, b => some (a != b)
  | .In, y, x => some (Txt.contains x y)
  | .NotIn, y, x => some (!Txt.contains x y)
  | _, _, _ => none
noncomputable def cmpB : CmpOp → Bool → Bool → Option Bool
  | .Is, a, b => some (a == b)
  | _, _, _ => none
noncomputable def eqLs (a b : List S) : Option Bool :=
  ((allStr a).bind fun x => (allStr b).bind fun y => if x.all PyData.strOk = true ∧ y.all PyData.strOk = true then some (decide (x = y)) else none).or
    ((allInt a).bind fun x => (allInt b).bind fun y => some (decide (x = y)))
noncomputable def cmpL : CmpOp → List S → List S → Option Bool
  | .Eq, a, b => eqLs a b
  | .NotEq, a, b => (eqLs a b).map (!·)
  | _, _, _ => none
noncomputable def cmpop (op : CmpOp) (a b : V) : Option Bool :=
  (a.asI.bind fun x => b.asI.bind fun y => cmpI op x y).or
    ((a.asS.bind fun x => b.asS.bind fun y => cmpS op x y).or
      ((a.asB.bind fun x => b.asB.bind fun y => cmpB op x y).or (a.asL.bind fun x => b.asL.bind fun y => cmpL op x y)))

noncomputable def truth (v : V) : Option Bool :=
  (v.asB).or ((v.asS.bind fun x => if x.length ≤ 9999 then some ((x.length : Int) != 0) else none).or (v.asI.map (· != 0)))

/-! their rules -/
noncomputable def HidOk (hid : List Addr) (h : Heap) : Prop := ∀ a ∈ hid, ∃ o, h.get? a = some o
theorem HidOk.grows {hid h h'} (e : HidOk hid h) (g : Grows h h') : HidOk hid h' := fun a m => (e a m).elim fun o e => ⟨o, g _ _ e⟩
theorem HidOk.new {hid h a} (e : HidOk hid h) (ha : h.objs.size ≤ a) : a ∉ hid := fun m => (e a m).elim fun _ e => Nat.lt_irrefl _ (Nat.lt_of_lt_of_le (Heap.lt_size e) ha)

section
variable {prog : Program} {w : World} {A : Around} {E : Value → Shared → Prop} {s : Shared} {C : Addr} {hid : List Addr} {d : Nat} {Q : Value → Shared → Prop}

/-- a result that holds behind growth -/
noncomputable def Back (C : Addr) (hid : List Addr) (s : Shared) (v : V) (Q : Value → Shared → Prop) : Prop := ∀ mv s', Keeps s s' → RelV C (vw s'.heap hid) v mv → Q mv s'
theorem Back.after {s s' : Shared} {v : V} (b : Back C hid s v Q) (k : Keeps s s') : Back C hid s' v Q := fun mv s'' k' r => b mv s'' (keeps_trans k k') r
theorem Back.int {i : Int} (h : Back C hid s (.i i) Q) {k t : Nat} : Q (.int i t) { s with toks := k } := h _ _ (keeps_tok s k) rfl
theorem Back.str {x : Str} (h : Back C hid s (.s x) Q) {k t : Nat} : Q (.str x t) { s with toks := k } := h _ _ (keeps_tok s k) rfl
theorem Back.bool {b : Bool} (h : Back C hid s (.t b) Q) : Q (.bool b) s := h _ _ (keeps_refl s) rfl
theorem vw_push {h : Heap} {o : Obj} (hn : HidOk hid h) (hf : o.isFreed = false) : vw (h.push o) hid h.objs.size o :=
  ⟨Heap.get?_push_size _ hf, hn.new (Nat.le_refl _)⟩
/-- a new list -/
theorem Back.list {l : List S} {vs : List Value} (h : Back C hid s (.list l) Q) (hn : HidOk hid s.heap) (r : RelL l vs) {k : Nat} :
    Q (.ref s.heap.objs.size) { s with heap := s.heap.push { cls := .type "list", data := .seq vs.toArray }, toks := k } :=
  h _ _ (keeps_heap k (push_grows _ _)) ⟨_, vs, 0, rfl, vw_push hn rfl, r⟩

theorem allInt_ok {l : List S} : ∀ {ms : List Value} {ns : List Int}, allInt l = some ns → RelL l ms → IntsAre ms ns := by
  induction l with
  | nil =>
    intro ms ns h r
    cases ms with
    | nil => injection h with h; rw [← h]; exact .nil
    | cons m ms => injection r
  | cons x l ih =>
    intro ms ns h r
    cases x with
    | int i =>
      cases ms with
      | nil => injection r
      | cons m ms =>
        injection r with r1 r2
        obtain ⟨t, rfl⟩ := sca_int r1
        obtain ⟨ns', h', rfl⟩ := Option.map_eq_some_iff.mp h
        exact .cons i t (ih h' r2)
    | _ => injection h
theorem allStr_ok {l : List S} : ∀ {ms : List Value} {ns : List Str}, allStr l = some ns → RelL l ms → ∃ q : List (Str × Tok), ms = strValues q ∧ q.map (·.1) = ns := by
  induction l with
  | nil =>
    intro ms ns h r
    cases ms with
    | nil => injection h with h; exact ⟨[], rfl, h⟩
    | cons m ms => injection r
  | cons x l ih =>
    intro ms ns h r
    cases x with
    | str i =>
      cases ms with
      | nil => injection r
      | cons m ms =>
        injection r with r1 r2
        obtain ⟨t, rfl⟩ := sca_str r1
        obtain ⟨ns', h', rfl⟩ := Option.map_eq_some_iff.mp h
        obtain ⟨q, rfl, rfl⟩ := ih h' r2
        exact ⟨(i, t) :: q, rfl, rfl⟩
    | _ => injection h
theorem carried (q : List (Str × Tok)) : CarriedAll (strValues q) ((q.map (·.1)).map PyData.str) := by
  induction q with
  | nil => exact .nil
  | cons x q ih => exact .cons (.str x.1 x.2) ih
theorem shaped_strs (ns : List Str) (h : ns.all PyData.strOk = true) : SeqAt.shaped (.list (ns.map PyData.str)) = true := by
  have : PyData.canLayAll0 (ns.map PyData.str) = true ∧ PyData.depthAll (ns.map PyData.str) = 0 := by
    induction ns with
    | nil => exact ⟨rfl, rfl⟩
    | cons x r ih => simp only [List.all_cons, Bool.and_eq_true] at h; simp [PyData.canLayAll0, PyData.canLay0, PyData.depthAll, PyData.depth, h.1, ih h.2]
  simp [SeqAt.shaped, PyData.canLay0, PyData.depth, this]
theorem same_strs (ns : List Str) : ∀ ms : List Str, Spec.sameAll (ns.map PyData.str) (ms.map PyData.str) = decide (ns = ms) := by
  induction ns with
  | nil => intro ms; cases ms <;> simp [Spec.sameAll]
  | cons a r ih =>
    intro ms
    cases ms with
    | nil => simp [Spec.sameAll]
    | cons b t =>
      simp only [List.map_cons, Spec.sameAll, Spec.same, ih t]
      by_cases h : a = b <;> by_cases h' : r = t <;> simp [h, h']

theorem eqLs_ok {a b : List S} {r : Bool} {ma mb : Value} (hc : eqLs a b = some r) (ra : RelV C (vw s.heap hid) (.list a) ma) (rb : RelV C (vw s.heap hid) (.list b) mb) (hu : A.units + 64 < cLine) :
    (Q (.bool r) s → wpAny (model prog w) A (compareOp .Eq ma mb) Q E s) ∧ (Q (.bool (!r)) s → wpAny (model prog w) A (compareOp .NotEq ma mb) Q E s) := by
  obtain ⟨pa, va, na, rfl, wa, la⟩ := ra
  obtain ⟨pb, vb, nb, rfl, wb, lb⟩ := rb
  have ia := IsL.isList wa.1
  have ib := IsL.isList wb.1
  refine orK hc (fun hc => ?_) fun hc => ?_
  · refine bind2K hc fun x y hx hy hf => ?_
    obtain ⟨⟨k1, k2⟩, hf⟩ := ite_some hf
    injection hf with hf
    obtain ⟨qa, rfl, rfl⟩ := allStr_ok hx la
    obtain ⟨qb, rfl, rfl⟩ := allStr_ok hy lb
    have e := same_strs (qa.map (·.1)) (qb.map (·.1))
    have nm := SeqAt.noMix_of_shape (.list .str) rfl (.list ((qa.map (·.1)).map .str)) (.list ((qb.map (·.1)).map .str)) (list_map_has fun _ => rfl) (list_map_has fun _ => rfl)
    refine ⟨fun h => eq_dataH_same (reads_newData ia (carried qa)) (reads_newData ib (carried qb)) (shaped_strs _ k1) (shaped_strs _ k2) hu nm ?_,
      fun h => ne_dataH_same (reads_newData ia (carried qa)) (reads_newData ib (carried qb)) (shaped_strs _ k1) (shaped_strs _ k2) hu nm ?_⟩
    · unfold Spec.same; rw [e, hf]; exact h
    · unfold Spec.same; rw [e, hf]; exact h
  · refine bind2K hc fun x y hx hy hf => ?_
    injection hf with hf
    have ca := allInt_ok hx la
    have cb := allInt_ok hy lb
    exact ⟨fun h => ke_eq_ints ia ib ca cb hu (hf ▸ h), fun h => ke_ne_ints ia ib ca cb hu (hf ▸ h)⟩

theorem cmpop_ok {op : CmpOp} {a b : V} {r : Bool} {ma mb : Value} (he : cmpop op a b = some r) (ra : RelV C (vw s.heap hid) a ma) (rb : RelV C (vw s.heap hid) b mb) (R : Room A d)
    (h : Q (.bool r) s) : wpAny (model prog w) A (compareOp op ma mb) Q E s := by
  refine orK he (fun he => ?_) fun he => ?_
  · refine bind2K he fun x y hx hy hf => ?_
    obtain ⟨t, rfl⟩ := asI_rel hx ra
    obtain ⟨u, rfl⟩ := asI_rel hy rb
    cases op <;> first | (injection hf; done) | (injection hf with hf; rw [← hf] at h)
    · exact eq_int h
    · exact ne_int h
    · exact lt_int h
    · exact le_int h
    · exact gt_int h
    · exact ge_int h
  refine orK he (fun he => ?_) fun he => ?_
  · refine bind2K he fun x y hx hy hf => ?_
    obtain ⟨t, rfl⟩ := asS_rel hx ra
    obtain ⟨u, rfl⟩ := asS_rel hy rb
    cases op <;> first | (injection hf; done) | (injection hf with hf; rw [← hf] at h)
    · exact eq_str h
    · exact ne_str h
    · exact SB.contains h
    · exact SB.notContains h
  refine orK he (fun he => ?_) fun he => ?_
  · refine bind2K he fun x y hx hy hf => ?_
    rw [asB_rel hx ra, asB_rel hy rb]
    cases op <;> first | (injection hf; done) | (injection hf with hf; rw [← hf] at h)
    refine wpAny_is_plain rfl ?_
    rw [show (Value.bool x == Value.bool y) = (x == y) by cases x <;> cases y <;> decide]
    exact h
  · refine bind2K he fun x y hx hy hf => ?_
    rw [asL_eq hx] at ra
    rw [asL_eq hy] at rb
    cases op with
    | Eq => exact (eqLs_ok hf ra rb R.u64).1 h
    | NotEq => obtain ⟨q, hf, e⟩ := Option.map_eq_some_iff.mp hf; exact (eqLs_ok hf ra rb R.u64).2 (e ▸ h)
    | _ => injection hf

theorem rep_list (k : Nat) (m : Value) : List.foldl (fun x1 x2 => x1 ++ x2) #[] (List.replicate k #[m]) = (List.replicate k m).toArray := by
  suffices h : ∀ (k : Nat) (acc : Array Value), List.foldl (fun x1 x2 => x1 ++ x2) acc (List.replicate k #[m]) = acc ++ (List.replicate k m).toArray by simpa using h k #[]
  intro k
  induction k with
  | zero => intro acc; simp
  | succ k ih => intro acc; apply Array.ext'; simp [List.replicate_succ, ih]
theorem list_mul_ok {l : Addr} {m : Value} {k : Nat} {x : Int} {u : Tok} (hl : s.heap.get? l = some { cls := .type "list", dict := none, data := .seq #[m] k, slots := #[] })
    (hlo : 0 ≤ x) (hhi : x ≤ 99) (h : Q (.ref s.heap.objs.size) { s with heap := s.heap.push { cls := .type "list", data := .seq (List.replicate x.toNat m).toArray } }) :
    wpAny (model prog w) A (binaryOp .Mult (.ref l) (.int x u)) Q E s := by
  refine wpAny_binaryOp_repeat_ref (T := "list") (U := "int") (by decide) ⟨_, hl, rfl⟩ (fun s' => typeIs_int s' x u) noFill_list_mul F.fills_int_mul F.slot_int_rmul repeat_list F.slot_int_index.lookup
    (call_meets F.slot_int_rmul (typeIs_int s x u) F.entry_int_rmul (F.args_int_rmul_2 _ _) (int___rmul___int_list x u l _ k)
      ⟨hl, rfl, ⟨_, hl, rfl⟩, call_meets F.slot_list_mul ⟨_, hl, rfl⟩ F.entry_list_mul (F.args_list_mul_2 _ _)
        (AutoListH.list___mul___list_int_3 l _ k x u (by simp [Builtin.List.listFitsIndex]; omega) (by simp; omega) (by simp [Builtin.List.listTooLong, sizeLine]; omega)) ⟨hl, ?_⟩⟩)
  rw [show (#[m] : Array Value).isEmpty = false from rfl, if_neg (by decide), rep_list]
  exact h

theorem isAdd_eq {op} (h : isAdd op = true) : op = .Add := by cases op <;> first | rfl | cases h
theorem isMult_eq {op} (h : isMult op = true) : op = .Mult := by cases op <;> first | rfl | cases h
theorem len2 {a b : Nat} (h : a + b ≤ 9999) : a + b ≤ sizeLine := Nat.le_trans h (by decide)

theorem binop_ok {op : Operator} {a b v : V} {ma mb : Value} (he : binop op a b = some v) (ra : RelV C (vw s.heap hid) a ma) (rb : RelV C (vw s.heap hid) b mb) (hn : HidOk hid s.heap)
    (h : Back C hid s v Q) : wpAny (model prog w) A (binaryOp op ma mb) Q E s := by
  refine orK he (fun he => ?_) fun he => ?_
  · refine bind2K he fun x y hx hy hf => ?_
    obtain ⟨t, rfl⟩ := asI_rel hx ra
    obtain ⟨u, rfl⟩ := asI_rel hy rb
    obtain ⟨r, hg, rfl⟩ := Option.map_eq_some_iff.mp hf
    clear hf he
    cases op with
    | Add => injection hg with hf; rw [← hf] at h; exact add_int h.int
    | Sub => injection hg with hf; rw [← hf] at h; exact sub_int h.int
    | Mult =>
      refine iteK hg fun hc hf => ?_
      injection hf with hf; rw [← hf] at h; exact mul_int h.int (.of_left hc)
    | Pow =>
      refine iteK hg fun hc hf => ?_
      injection hf with hf; rw [← hf] at h
      rw [hc.1, hc.2]
      exact pow_int (by decide) (by decide +kernel) h.int
    | FloorDiv =>
      refine iteK hg fun hc hf => ?_
      injection hf with hf; rw [← hf, ← Int.fdiv_eq_ediv_of_nonneg _ (Int.le_of_lt hc.1)] at h
      exact floordiv_int (Int.ne_of_gt hc.1) h.int (.inl (PyProof.noPylong_small (by omega)))
    | Mod =>
      refine iteK hg fun hc hf => ?_
      injection hf with hf; rw [← hf, ← Int.fmod_eq_emod_of_nonneg _ (Int.le_of_lt hc)] at h
      exact mod_int (Int.ne_of_gt hc) h.int
    | _ => injection hg
  refine orK he (fun he => ?_) fun he => ?_
  · refine bind2K he fun x y hx hy hf => ?_
    obtain ⟨t, rfl⟩ := asS_rel hx ra
    obtain ⟨u, rfl⟩ := asS_rel hy rb
    refine iteK hf fun hc hf => ?_
    injection hf with hf; rw [← hf] at h
    rw [isAdd_eq hc.1]
    exact SB.add (fun t' k => h.str) (len2 hc.2)
  refine orK he (fun he => ?_) fun he => ?_
  · refine bind2K he fun x y hx hy hf => ?_
    obtain ⟨pa, va, na, rfl, wa, la⟩ := asL_rel hx ra
    obtain ⟨pb, vb, nb, rfl, wb, lb⟩ := asL_rel hy rb
    refine iteK hf fun hc hf => ?_
    injection hf with hf; rw [← hf] at h
    rw [isAdd_eq hc.1]
    refine P.add_list wa.1 wb.1 ?_ (len2 (by rw [List.size_toArray, List.size_toArray, la.length, lb.length]; exact hc.2))
    rw [List.append_toArray]
    exact h.list hn (la.append lb)
  refine orK he (fun he => ?_) fun he => ?_
  · refine bind2K he fun x y hx hy hf => ?_
    obtain ⟨t, rfl⟩ := asS_rel hx ra
    obtain ⟨u, rfl⟩ := asI_rel hy rb
    refine iteK hf fun hc hf => ?_
    injection hf with hf; rw [← hf] at h
    rw [isMult_eq hc.1]
    exact SB.mul (mulOk_of 1 99 hc.2.1 hc.2.2.2 (Int.le_trans (by decide) hc.2.2.1) (by decide) (by decide)) fun t' k => h.str
  · refine bind2K he fun x y hx hy hf => ?_
    obtain ⟨pa, va, na, rfl, wa, la⟩ := asL_rel hx ra
    obtain ⟨u, rfl⟩ := asI_rel hy rb
    unfold opLI at hf
    split at hf
    · refine iteK hf fun hc hf => ?_
      injection hf with hf; rw [← hf] at h
      rw [isMult_eq hc.1]
      cases va with
      | nil => injection la
      | cons m ms =>
        injection la with l1 l2
        cases ms with
        | nil => exact list_mul_ok wa.1 hc.2.1 hc.2.2 (h.list hn (.rep l1 _))
        | cons _ _ => injection l2
    · injection hf

theorem truth_ok {v : V} {b : Bool} {m : Value} {Q : Bool → Shared → Prop} {W : View} (he : truth v = some b) (r : RelV C W v m) (h : ∀ k, Q b { s with toks := k }) : wpAny (model prog w) A (truthy m) Q E s := by
  refine orK he (fun he => ?_) fun he => ?_
  · rw [asB_rel he r]; exact wpAny_truthy_bool (h s.toks)
  refine orK he (fun he => ?_) fun he => ?_
  · refine bindK he fun x hx he => ?_
    obtain ⟨t, rfl⟩ := asS_rel hx r
    refine iteK he fun hc he => ?_
    injection he with he
    exact P.truthy_str (by omega) (he ▸ h _)
  · refine mapK he fun x hx he => ?_
    obtain ⟨t, rfl⟩ := asI_rel hx r
    exact truthy_int (he ▸ h s.toks)
end


/-! the ground of the run: the top's heap and what its names hold -/
structure Cx where
  prog : Program
  w : World
  K : Frag
  H : Heap
  mg : Str → Option Value
  mb : Str → Option Value
  C : Addr
  /-- names of the top that hold scalars -/
  gc : Str → Option S
  /-- names of the top that are called -/
  fa : Str → Option Value
  /-- the class's methods -/
  ma : Str → Option Addr
  /-- the top's table of signs -/
  tok : Str → Option Int

structure Cx.Ok (c : Cx) : Prop where
  KIn : c.K.In c.H
  g : c.H.Ns mainGlobals c.mg
  b : c.H.Ns builtinsNs c.mb
  nolimit : c.H.NoLimit
  gcOk : ∀ x v, c.gc x = some v → ∃ mv, c.mg x = some mv ∧ sca mv = some v
  faOk : ∀ x v, c.fa x = some v → c.mg x = some v
  keep : ∀ x v, c.fa x = some v → keepIn c.K v = true
  maOk : ∀ x a, c.ma x = some a → findIn c.K (.ref c.C) x = some (some (.ref a)) ∧ isFn c.K (.ref a) = true ∧ keepIn c.K (.ref a) = true
  free : ∀ x : Str, x = "len" ∨ x = "list" ∨ x = "tuple" ∨ x = "max" ∨ x = "range" ∨ x = "enumerate" → c.mg x = none
  tokOk : ∃ a f, c.mg "EXACT_TOKEN_TYPES" = some (.ref a) ∧ c.H.MapOf (PySem.strKind c.prog c.w) a f ∧ ∀ x i, c.tok x = some i → ∃ t, f x = some (.int i t)
  boot : ∀ x : Str, x ≠ "__name__" → c.mb x = bootBuiltins x
  cls : plainGet c.K c.C "n" = true ∧ hasDictIn c.K c.C = true
  attr : ∀ x : Str, x = "raw" ∨ x = "n" ∨ x = "nt" ∨ x = "norm" ∨ x = "is_simple" → findIn c.K (.ref c.C) x = some none

@[reducible] noncomputable def Sc := List (Str × NameKind)
@[reducible] noncomputable def Rho := List (Str × V)

noncomputable def isVar (sc : Sc) (x : Str) : Bool := match sc.lookup x with
  | some .local | some .cell | some .free => true
  | _ => false

structure EC (c : Cx) (env : Env) (sc : Sc) (h : Heap) : Prop where
  kind : env.scope.kind = .function
  names : env.scope.names = sc
  glob : env.globals = mainGlobals
  bi : env.builtins = builtinsNs
  top : Grows c.H h
  cells : ∀ x, sc.lookup x = some .cell ∨ sc.lookup x = some .free → ∃ a, env.cells.lookup x = some a

noncomputable def Holds (env : Env) (sc : Sc) (h : Heap) (x : Str) (mv : Value) : Prop :=
  (sc.lookup x = some .local ∧ ∃ m, h.Ns env.locals m ∧ m x = some mv) ∨
  ((sc.lookup x = some .cell ∨ sc.lookup x = some .free) ∧ ∃ a, env.cells.lookup x = some a ∧ h.IsCell a (some mv))

noncomputable def Reads (c : Cx) (env : Env) (sc : Sc) (hid : List Addr) (h : Heap) (ρ : Rho) : Prop :=
  ∀ x v, isVar sc x = true → ρ.lookup x = some v → ∃ mv, Holds env sc h x mv ∧ RelV c.C (vw h hid) v mv

/-- all that an expression's run leans on -/
structure At (c : Cx) (d : Nat) (sc : Sc) (ρ : Rho) (A : Around) (env : Env) (hid : List Addr) (h : Heap) : Prop where
  R : Room A d
  ec : EC c env sc h
  ho : HidOk hid h
  rd : Reads c env sc hid h ρ

theorem Holds.grows {env sc h h' x mv} (e : Holds env sc h x mv) (g : Grows h h') : Holds env sc h' x mv := by
  rcases e with ⟨k, m, n, e⟩ | ⟨k, a, l, i⟩
  · exact .inl ⟨k, m, n.keeps g, e⟩
  · exact .inr ⟨k, a, l, i.keeps g⟩
theorem At.grows {c d sc ρ A env hid h h'} (a : At c d sc ρ A env hid h) (g : Grows h h') : At c d sc ρ A env hid h' where
  R := a.R
  ec := ⟨a.ec.1, a.ec.2, a.ec.3, a.ec.4, a.ec.5.trans g, a.ec.6⟩
  ho := a.ho.grows g
  rd := fun x v k l => by obtain ⟨mv, p, q⟩ := a.rd x v k l; exact ⟨mv, p.grows g, q.mono (vw_grows g)⟩
theorem At.keeps {c d sc ρ A env hid} {s s' : Shared} (a : At c d sc ρ A env hid s.heap) (k : Keeps s s') : At c d sc ρ A env hid s'.heap := a.grows (grow k)

/-- an expression yields a value -/
noncomputable def Sat (c : Cx) (d : Nat) (sc : Sc) (ρ : Rho) (e : Expr) (v : V) : Prop :=
  ∀ (A : Around) (env : Env) (s : Shared) (hid : List Addr) (Q : Value → Shared → Prop) (E : Value → Shared → Prop),
    At c d sc ρ A env hid s.heap → Back c.C hid s v Q → wpAny (model c.prog c.w) A (eval e env) Q E s
/-- .. a truth -/
noncomputable def SatT (c : Cx) (d : Nat) (sc : Sc) (ρ : Rho) (e : Expr) (b : Bool) : Prop :=
  ∀ (A : Around) (env : Env) (s : Shared) (hid : List Addr) (Q : Bool → Shared → Prop) (E : Value → Shared → Prop),
    At c d sc ρ A env hid s.heap → (∀ s', Keeps s s' → Q b s') → wpAny (model c.prog c.w) A (isTrue e env (eval e env)) Q E s
noncomputable def notStar (e : Expr) : Bool := e.ctorIdx != 22
noncomputable def notSlice (e : Expr) : Bool := e.ctorIdx != 26
noncomputable def notSet (e : Expr) : Bool := e.ctorIdx != 7
noncomputable def plainBase (e : Expr) : Bool := e.ctorIdx == 23 || e.ctorIdx == 19 || e.ctorIdx == 21
/-- no form of its own in a test -/
noncomputable def plainTest (e : Expr) : Bool := e.ctorIdx == 23 || e.ctorIdx == 16 || e.ctorIdx == 20
noncomputable def notComp (e : Expr) : Bool := e.ctorIdx != 8 && e.ctorIdx != 9 && e.ctorIdx != 10
structure Kinds (e : Expr) : Prop where
  star : notStar e = true → ∀ rest env, starEach (e :: rest) env = (false, eval e env) :: starEach rest env
  sub : notSlice e = true → ∀ o i, subscripted e false o i = operate [o, i] (getItem o i)
  fold : notSet e = true → ∀ env x, foldedSetIterable e env x = pure x
  base : plainBase e = true → ∀ name env t, attributeBase e name env t = t
  test : plainTest e = true → ∀ env, isTrue e env (eval e env) = (do let v ← eval e env; standAt e.pos; holding [v] (truthy v))
  swap : notComp e = true → ∀ t l env, swapsWith e t l env = pure false
theorem kinds (e : Expr) : Kinds e := by
  cases e <;> (constructor <;> intro h <;> first | exact nomatch (show false = true from h) | exact fun _ _ => rfl | exact fun _ _ _ => rfl | exact fun _ => rfl)
set_option genCtorIdx false in
inductive Vw where
  | name (x : Str) (p : Pos) | attr (o : Expr) (x : Str) (p : Pos) | tup (es : List Expr) (k : Nat) (p : Pos) | slice (a b e : Option Expr) (p : Pos)
  | call (g : Expr) (es : List Expr) (kw : List Keyword) (p : Pos) | bin (l : Expr) (op : Operator) (r : Expr) (p : Pos) | sub (o i : Expr) (p : Pos) | dict (ks : List (Option Expr)) (vs : List Expr) (p : Pos) | no
noncomputable def view : Expr → Vw
  | .Name x p => .name x p
  | .Attribute o x p => .attr o x p
  | .Tuple es k p => .tup es k p
  | .Slice a b e p => .slice a b e p
  | .Call g es kw p => .call g es kw p
  | .BinOp l op r p => .bin l op r p
  | .Subscript o i p => .sub o i p
  | .Dict ks vs p => .dict ks vs p
  | _ => .no
noncomputable def Vw.e : Vw → Expr → Expr
  | .name x p, _ => .Name x p
  | .attr o x p, _ => .Attribute o x p
  | .tup es k p, _ => .Tuple es k p
  | .slice a b e p, _ => .Slice a b e p
  | .call g es kw p, _ => .Call g es kw p
  | .bin l op r p, _ => .BinOp l op r p
  | .sub o i p, _ => .Subscript o i p
  | .dict ks vs p, _ => .Dict ks vs p
  | .no, e => e
theorem view_eq (e : Expr) : e = (view e).e e := by cases e <;> rfl
noncomputable def asName (e : Expr) : Option (Str × Pos) := match view e with
  | .name x p => some (x, p)
  | _ => none
noncomputable def asAttr (e : Expr) : Option (Expr × Str × Pos) := match view e with
  | .attr o x p => some (o, x, p)
  | _ => none
noncomputable def asTup (e : Expr) : Option (List Expr × Nat × Pos) := match view e with
  | .tup es k p => some (es, k, p)
  | _ => none
noncomputable def asSlice (e : Expr) : Option (Option Expr × Option Expr × Option Expr × Pos) := match view e with
  | .slice a b e p => some (a, b, e, p)
  | _ => none
theorem asName_eq {e : Expr} {q} (h : asName e = some q) : e = .Name q.1 q.2 := by
  have v := view_eq e
  unfold asName at h
  cases w : view e with
  | name x p => rw [w] at h v; injection h with h; rw [← h]; exact v
  | _ => rw [w] at h; injection h
theorem asAttr_eq {e : Expr} {q} (h : asAttr e = some q) : e = .Attribute q.1 q.2.1 q.2.2 := by
  have v := view_eq e
  unfold asAttr at h
  cases w : view e with
  | attr o x p => rw [w] at h v; injection h with h; rw [← h]; exact v
  | _ => rw [w] at h; injection h
theorem asTup_eq {e : Expr} {q} (h : asTup e = some q) : e = .Tuple q.1 q.2.1 q.2.2 := by
  have v := view_eq e
  unfold asTup at h
  cases w : view e with
  | tup es k p => rw [w] at h v; injection h with h; rw [← h]; exact v
  | _ => rw [w] at h; injection h
theorem asSlice_eq {e : Expr} {q} (h : asSlice e = some q) : e = .Slice q.1 q.2.1 q.2.2.1 q.2.2.2 := by
  have v := view_eq e
  unfold asSlice at h
  cases w : view e with
  | slice a b c p => rw [w] at h v; injection h with h; rw [← h]; exact v
  | _ => rw [w] at h; injection h
noncomputable def asBin (e : Expr) : Option (Expr × Operator × Expr × Pos) := match view e with
  | .bin l op r p => some (l, op, r, p)
  | _ => none
theorem asBin_eq {e : Expr} {q} (h : asBin e = some q) : e = .BinOp q.1 q.2.1 q.2.2.1 q.2.2.2 := by
  have v := view_eq e
  unfold asBin at h
  cases w : view e with
  | bin l op r p => rw [w] at h v; injection h with h; rw [← h]; exact v
  | _ => rw [w] at h; injection h
noncomputable def asCall (e : Expr) : Option (Expr × List Expr × List Keyword × Pos) := match view e with
  | .call g es kw p => some (g, es, kw, p)
  | _ => none
theorem asCall_eq {e : Expr} {q} (h : asCall e = some q) : e = .Call q.1 q.2.1 q.2.2.1 q.2.2.2 := by
  have v := view_eq e
  unfold asCall at h
  cases w : view e with
  | call g es kw p => rw [w] at h v; injection h with h; rw [← h]; exact v
  | _ => rw [w] at h; injection h
noncomputable def asSub (e : Expr) : Option (Expr × Expr × Pos) := match view e with
  | .sub o i p => some (o, i, p)
  | _ => none
theorem asSub_eq {e : Expr} {q} (h : asSub e = some q) : e = .Subscript q.1 q.2.1 q.2.2 := by
  have v := view_eq e
  unfold asSub at h
  cases w : view e with
  | sub o i p => rw [w] at h v; injection h with h; rw [← h]; exact v
  | _ => rw [w] at h; injection h
noncomputable def asDict (e : Expr) : Option (List (Option Expr) × List Expr × Pos) := match view e with
  | .dict ks vs p => some (ks, vs, p)
  | _ => none
theorem asDict_eq {e : Expr} {q} (h : asDict e = some q) : e = .Dict q.1 q.2.1 q.2.2 := by
  have v := view_eq e
  unfold asDict at h
  cases w : view e with
  | dict ks vs p => rw [w] at h v; injection h with h; rw [← h]; exact v
  | _ => rw [w] at h; injection h
/-- arguments, one behind another -/
inductive SatL (c : Cx) (d : Nat) (sc : Sc) (ρ : Rho) : List Expr → List V → Prop
  | nil : SatL c d sc ρ [] []
  | cons {e v es vs} : notStar e = true → Sat c d sc ρ e v → SatL c d sc ρ es vs → SatL c d sc ρ (e :: es) (v :: vs)

section
variable {c : Cx} {d : Nat} {sc : Sc} {ρ : Rho}

theorem sat_int {i k pos} : Sat c d sc ρ (.Constant (.int i) k pos) (.i i) := fun A env s hid Q E _ h => wpAny_Constant_int h.int
theorem sat_bool {b k pos} : Sat c d sc ρ (.Constant (.bool b) k pos) (.t b) := fun A env s hid Q E _ h => wpAny_Constant_bool h.bool
theorem sat_str {x k pos} : Sat c d sc ρ (.Constant (.str x) k pos) (.s x) := fun A env s hid Q E _ h => Calls.Constant_str h.str

theorem EC.kindOf {env : Env} {h} (ec : EC c env sc h) (x : Str) : env.kindOf x = sc.lookup x := by unfold Env.kindOf; rw [ec.names]
theorem load_ok {M : Model} {A : Around} {env : Env} {s : Shared} {x : Str} {mv : Value} {Q : Value → Shared → Prop} {E} (ec : EC c env sc s.heap) (hx : Holds env sc s.heap x mv) (hd : (x == ("__classdict__" : Str)) = false) (h : Q mv s) :
    wpAny M A (loadName env x) Q E s := by
  rcases hx with ⟨k, m, n, e⟩ | ⟨k, a, l, i⟩
  · exact wpAny_loadName_local ec.kind ((ec.kindOf x).trans k) n e h
  · rcases k with k | k
    · exact wpAny_loadName_cell ec.kind ((ec.kindOf x).trans k) l i h
    · exact wpAny_loadName_free ec.kind ((ec.kindOf x).trans k) l i h hd

/-- a name that no keyword of the machine's is -/
noncomputable def okName (x : Str) : Bool := !(x == ("__debug__" : Str)) && !(x == ("__classdict__" : Str))
theorem okName_of {x : Str} (h : okName x = true) : (x == ("__debug__" : Str)) = false ∧ (x == ("__classdict__" : Str)) = false := by
  unfold okName at h
  rw [Bool.and_eq_true, Bool.not_eq_true', Bool.not_eq_true'] at h
  exact h
theorem sat_name {x pos v} (hk : isVar sc x = true) (hv : ρ.lookup x = some v) (hd : okName x = true) : Sat c d sc ρ (.Name x pos) v := fun A env s hid Q E a h => by
  obtain ⟨mv, hx, r⟩ := a.rd x v hk hv
  exact wpAny_Name (load_ok a.ec hx (okName_of hd).2 (h _ _ (keeps_refl s) r)) (okName_of hd).1
theorem global_ok {M : Model} {A : Around} {env : Env} {s : Shared} {hid} {x pos mv} {Q : Value → Shared → Prop} {E} (o : c.Ok) (a : At c d sc ρ A env hid s.heap) (hk : sc.lookup x = some .globalImplicit) (hv : c.mg x = some mv) (hd : okName x = true) (h : Q mv s) :
    wpAny M A (eval (.Name x pos) env) Q E s :=
  Name_function_global a.ec.kind ((a.ec.kindOf x).trans hk) (loadGlobal_global (env := env) (by rw [a.ec.glob]; exact o.g.keeps a.ec.top) hv h) (okName_of hd).1
theorem sat_global (o : c.Ok) {x pos v} (hk : sc.lookup x = some .globalImplicit) (hv : c.gc x = some v) (hd : okName x = true) : Sat c d sc ρ (.Name x pos) (.sc v) := fun A env s hid Q E a h => by
  obtain ⟨mv, hm, r⟩ := o.gcOk x v hv
  exact global_ok o a hk hm hd (h _ _ (keeps_refl s) r)

theorem sat_binop {l r op pos a b v} (hl : Sat c d sc ρ l a) (hr : Sat c d sc ρ r b) (hv : binop op a b = some v) : Sat c d sc ρ (.BinOp l op r pos) v := fun A env s hid Q E at_ h =>
  wpAny_BinOp (hl A env s hid _ _ at_ fun ma s₁ k₁ ra => hr A env s₁ hid _ _ (at_.keeps k₁) fun mb s₂ k₂ rb =>
    binop_ok hv (ra.keeps k₂) rb ((at_.keeps k₁).keeps k₂).ho (h.after (keeps_trans k₁ k₂)))

theorem sat_neg {x pos} {i : Int} (hl : Sat c d sc ρ x (.i i)) : Sat c d sc ρ (.UnaryOp .USub x pos) (.i (-i)) := fun A env s hid Q E at_ h => by
  show wpAny _ A (do let v ← eval x env; standAt pos; holding [v] (unaryOp .USub v)) Q E s
  refine wpAny_bind (hl A env s hid _ _ at_ fun ma s₁ k₁ ra => wpAny_bind (wpAny_standAt (wpAny_holding ?_)))
  obtain ⟨t, rfl⟩ := sca_int ra
  exact neg_int (h.after k₁).int

theorem sat_cmp {l r op pos a b v} (hl : Sat c d sc ρ l a) (hr : Sat c d sc ρ r b) (hv : cmpop op a b = some v) (hm : behindInMarks op r = false) : Sat c d sc ρ (.Compare l [op] [r] pos) (.t v) := fun A env s hid Q E at_ h =>
  wpAny_Compare1 (hl A env s hid _ _ at_ fun ma s₁ k₁ ra => hr A env s₁ hid _ _ (at_.keeps k₁) fun mb s₂ k₂ rb =>
    cmpop_ok hv (ra.keeps k₂) rb at_.R (h.after (keeps_trans k₁ k₂)).bool) hm

theorem sat_and2 {l r pos a b} {t : Bool} (hl : Sat c d sc ρ l a) (ht : truth a = some t) (hr : t = true → Sat c d sc ρ r b) : Sat c d sc ρ (.BoolOp .And [l, r] pos) (if t then b else a) := fun A env s hid Q E at_ h => by
  refine BoolOp_and (hl A env s hid _ _ at_ fun ma s₁ k₁ ra => truth_ok ht ra fun k => ?_)
  have k₂ := keeps_trans k₁ (keeps_tok s₁ k)
  cases t with
  | false => exact h _ _ k₂ ra
  | true => exact BoolOp_one (hr rfl A env _ hid _ _ (at_.keeps k₂) (h.after k₂))

/-! truths -/
theorem satT_cmp {l r op pos a b v} (hl : Sat c d sc ρ l a) (hr : Sat c d sc ρ r b) (hv : cmpop op a b = some v) (hm : behindInMarks op r = false) : SatT c d sc ρ (.Compare l [op] [r] pos) v := fun A env s hid Q E at_ h =>
  wpAny_isTrue_Compare1 (hl A env s hid _ _ at_ fun ma s₁ k₁ ra => hr A env s₁ hid _ _ (at_.keeps k₁) fun mb s₂ k₂ rb =>
    cmpop_ok hv (ra.keeps k₂) rb at_.R (wpAny_truthy_bool (h _ (keeps_trans k₁ k₂)))) hm
theorem satT_plain {e a b} (hp : plainTest e = true) (he : Sat c d sc ρ e a) (ht : truth a = some b) : SatT c d sc ρ e b := fun A env s hid Q E at_ h => by
  rw [(kinds e).test hp]
  exact wpAny_bind (he A env s hid _ _ at_ fun ma s₁ k₁ ra => wpAny_bind (wpAny_standAt (wpAny_holding (truth_ok ht ra fun k => h _ (keeps_trans k₁ (keeps_tok _ k))))))
theorem satT_and {l r pos} {a b : Bool} (hl : SatT c d sc ρ l a) (hr : a = true → SatT c d sc ρ r b) : SatT c d sc ρ (.BoolOp .And [l, r] pos) (a && b) := fun A env s hid Q E at_ h => by
  show wpAny _ A (allTrue .And [l, r] env) Q E s
  refine wpAny_bind (hl A env s hid _ _ at_ fun s₁ k₁ => ?_)
  cases a with
  | false => exact wpAny_pure (h _ k₁)
  | true =>
    refine wpAny_bind (hr rfl A env s₁ hid _ _ (at_.keeps k₁) fun s₂ k₂ => ?_)
    cases b <;> exact wpAny_pure (h _ (keeps_trans k₁ k₂))
theorem satT_or {l r pos} {a b : Bool} (hl : SatT c d sc ρ l a) (hr : a = false → SatT c d sc ρ r b) : SatT c d sc ρ (.BoolOp .Or [l, r] pos) (a || b) := fun A env s hid Q E at_ h => by
  show wpAny _ A (allTrue .Or [l, r] env) Q E s
  refine wpAny_bind (hl A env s hid _ _ at_ fun s₁ k₁ => ?_)
  cases a with
  | true => exact wpAny_pure (h _ k₁)
  | false =>
    refine wpAny_bind (hr rfl A env s₁ hid _ _ (at_.keeps k₁) fun s₂ k₂ => ?_)
    cases b <;> exact wpAny_pure (h _ (keeps_trans k₁ k₂))

/-! lists, tuples, arguments -/
noncomputable def RelVs (C : Addr) (W : View) : List V → List Value → Prop := Both (RelV C W)
theorem SatL.run {es vs} (ha : SatL c d sc ρ es vs) : ∀ {A : Around} {env : Env} {s : Shared} {hid : List Addr} {pos : Pos} {Q : List Value → Shared → Prop} {E : Value → Shared → Prop}, At c d sc ρ A env hid s.heap →
    (∀ ms s', Keeps s s' → Both (RelV c.C (vw s'.heap hid)) vs ms → Q ms s') → wpAny (model c.prog c.w) A (spliced (backTo pos (starEach es env))) Q E s := by
  induction ha with
  | nil => exact fun at_ h => Calls.spliced_nil (h [] _ (keeps_refl _) .nil)
  | cons hs he hr ih =>
    intro A env s hid pos Q E at_ h
    rw [(kinds _).star hs]
    exact Calls.spliced_cons (he A env s hid _ _ at_ fun m s₁ k₁ r₁ => ih (at_.keeps k₁) fun ms s₂ k₂ r₂ => h _ _ (keeps_trans k₁ k₂) (.cons (r₁.keeps k₂) r₂))
theorem SatL.plain {es vs} (ha : SatL c d sc ρ es vs) (env : Env) (pos : Pos) : (backTo pos (starEach es env)).any (·.1) = false := by
  induction ha with
  | nil => rfl
  | cons hs he hr ih => rw [(kinds _).star hs]; exact ih
theorem scas {C W} : ∀ {vs : List S} {ms : List Value}, Both (RelV C W) (vs.map .sc) ms → RelL vs ms := by
  intro vs
  induction vs with
  | nil => intro ms r; cases r; rfl
  | cons x l ih => intro ms r; cases r with | cons a b => unfold RelL; rw [List.map_cons, List.map_cons, ih b]; exact congrArg (· :: _) a
theorem scas' {C W} {vs : List S} {ms : List Value} (r : RelL vs ms) : Both (RelV C W) (vs.map .sc) ms := by
  have b := both_sca r
  induction b with
  | nil => exact .nil
  | cons a b ih => injection r with _ r; exact .cons a (ih r)
theorem sat_list {es vs pos} (he : SatL c d sc ρ es (vs.map .sc)) (hl : vs.length ≤ 9999) : Sat c d sc ρ (.List es pos) (.list vs) := fun A env s hid Q E at_ h =>
  wpAny_List (he.run at_ fun ms s₁ k₁ r₁ => ⟨Nat.le_trans (Nat.le_of_eq (scas r₁).length) (Nat.le_trans hl (by decide)), (h.after k₁).list (at_.keeps k₁).ho (scas r₁) (k := s₁.toks)⟩)
theorem sat_tuple {es vs k pos} (he : SatL c d sc ρ es (vs.map .sc)) (hl : vs.length ≤ 9999) : Sat c d sc ρ (.Tuple es k pos) (.tup vs) := fun A env s hid Q E at_ h =>
  wpAny_Tuple (he.run at_ fun ms s₁ k₁ r₁ => ⟨Nat.le_trans (Nat.le_of_eq (scas r₁).length) (Nat.le_trans hl (by decide)),
    h _ _ (keeps_trans k₁ (keeps_heap s₁.toks (push_grows _ _))) ⟨_, ms, 0, rfl, vw_push (at_.keeps k₁).ho rfl, scas r₁⟩⟩)
/-- a pair of a tuple and an int -/
theorem sat_norm {e₁ e₂ k pos} {l : List S} {b : Int} (h1 : notStar e₁ = true) (h2 : notStar e₂ = true) (s1 : Sat c d sc ρ e₁ (.tup l)) (s2 : Sat c d sc ρ e₂ (.i b)) : Sat c d sc ρ (.Tuple [e₁, e₂] k pos) (.norm l b) := fun A env s hid Q E at_ h =>
  wpAny_Tuple ((SatL.cons h1 s1 (.cons h2 s2 .nil)).run at_ fun ms s₁ k₁ r₁ => by
    cases r₁ with | @cons _ q _ _ ra r₂ => cases r₂ with | cons rb r₃ =>
    cases r₃
    obtain ⟨t, rfl⟩ := sca_int rb
    have g := push_grows s₁.heap { cls := .type "tuple", data := .seq [q, Value.int b t].toArray }
    exact ⟨show 2 ≤ sizeLine by decide, h _ _ (keeps_trans k₁ (keeps_heap s₁.toks g)) ⟨_, _, t, 0, rfl, vw_push (at_.keeps k₁).ho rfl, RelTup.mono (vw_grows g) ra⟩⟩)
end


/-- a place in a list, from either end -/
noncomputable def place (n : Nat) (i : Int) : Option Nat := if 0 ≤ i ∧ i ≤ 1000000 then some i.toNat else if i < 0 ∧ -1000000 ≤ i ∧ -(n : Int) ≤ i then some (i + n).toNat else none
noncomputable def itemS (x : Str) (i : Int) : Option S := if -1000000 ≤ i ∧ i ≤ 1000000 ∧ (Txt.charAt x i).isSome = true then some (.str (Txt.item x i)) else none
noncomputable def V.asDs : V → Option (List Int × List S)
  | .ds k l => some (k, l)
  | _ => none
noncomputable def V.asDw : V → Option (List Int × List WS)
  | .dw k l => some (k, l)
  | _ => none
noncomputable def V.asT : V → Option (List S)
  | .tup l => some l
  | _ => none
theorem asT_eq {v : V} {l : List S} (h : v.asT = some l) : v = .tup l := by
  cases v with
  | tup x => injection h with h; rw [h]
  | _ => injection h
noncomputable def itemv (o : V) (i : Int) : Option V :=
  (o.asS.bind fun x => (itemS x i).map V.sc).or
    ((o.asL.bind fun l => ((place l.length i).bind fun j => l[j]?).map V.sc).or
      ((o.asT.bind fun l => if 0 ≤ i ∧ i ≤ 1000000 then (l[i.toNat]?).map V.sc else none).or
        ((o.asDs.bind fun p => (lookI p.1 p.2 i).map V.sc).or (o.asDw.bind fun p => (lookI p.1 p.2 i).map V.ws))))

@[reducible] noncomputable def cut (l : List S) (lo hi : Option Int) : List S := (l.drop (lo.elim 0 (clipAt l.length))).take (hi.elim l.length (clipAt l.length) - lo.elim 0 (clipAt l.length))
noncomputable def slicev (o : V) (lo hi : Option Int) : Option V :=
  (o.asS.bind fun x => if x.length ≤ 9999 then some (.s (Txt.slice x lo hi)) else none).or
    (o.asL.bind fun l => if l.length ≤ 9999 then some (.list (cut l lo hi)) else none)
noncomputable def backS (x : Str) : Str := ⟨((Builtin.Str.strSliceIndices none none (-1) x.length).filterMap (x.cps[·]?)).toArray⟩


section
variable {prog : Program} {w : World} {A : Around} {E : Value → Shared → Prop} {s : Shared} {C : Addr} {hid : List Addr} {d : Nat} {Q : Value → Shared → Prop}

theorem asDs_eq {v : V} {p} (h : v.asDs = some p) : v = .ds p.1 p.2 := by
  cases v with
  | ds k l => injection h with h; rw [← h]
  | _ => injection h
theorem asDw_eq {v : V} {p} (h : v.asDw = some p) : v = .dw p.1 p.2 := by
  cases v with
  | dw k l => injection h with h; rw [← h]
  | _ => injection h

theorem sub_tail {value slice : Expr} {o i : Value} {T id : String} {ops : List Value} (hT : s.TypeIs o T)
    (hl : typeLookup (.type T) "__getitem__" = pure (some (.builtin id))) (hs : subscripted slice false o i = operate ops (getItem o i)) (h : wpAny (model prog w) A (getItem o i) Q E s) :
    wpAny (model prog w) A (subscriptTail value slice o i) Q E s := by
  unfold subscriptTail
  refine wpAny_bind ?_
  rw [getitemInPython_of_ne hT.not_modules]
  refine wpAny_bind (wpAny_specialOf hT hl ?_)
  refine wpAny_pure (wpAny_bind ?_)
  rw [hs]
  exact wpAny_operating (wpAny_mono h (fun r s₃ h₃ => wpAny_bind (wpAny_letTemporaryGo (wpAny_pure h₃))) fun _ _ x => x)
theorem IntD.map {h : Heap} {a : Addr} {o : Obj} {ks vs} (x : IntD o ks vs) (e : h.get? a = some o) : h.IntMap a (lookI ks vs) := x.es.elim fun es p => p.elim fun n q => ⟨o, es, n, e, q.1, q.2.1, q.2.2.2.1, q.2.2.2.2⟩

theorem listItem_ok {l : Addr} {items : Array Value} {n j : Nat} {k : Int} {t : Tok} {x : Value} (hl : s.heap.IsList l items) (hn : items.size = n) (hj : place n k = some j) (hx : items[j]? = some x) (h : Q x s) :
    wpAny (model prog w) A (getItem (.ref l) (.int k t)) Q E s := by
  unfold place at hj
  by_cases hc : 0 ≤ k ∧ k ≤ 1000000
  · rw [if_pos hc] at hj
    injection hj with hj
    exact wpAny_getItem_list hl hc.1 (Int.lt_of_le_of_lt hc.2 (by decide)) (hj ▸ hx) h
  · rw [if_neg hc] at hj
    refine iteK hj fun hc hj => ?_
    injection hj with hj
    subst hn
    exact wpAny_getItem_list_neg hl hc.1 hc.2.2 (Int.le_trans (by decide) hc.2.1) (hj ▸ hx) h

theorem item_ok {value slice : Expr} {a v : V} {ma : Value} {i : Int} {t : Tok} (hs : notSlice slice = true) (he : itemv a i = some v) (ra : RelV C (vw s.heap hid) a ma)
    (h : Back C hid s v Q) : wpAny (model prog w) A (subscriptTail value slice ma (.int i t)) Q E s := by
  refine orK he (fun he => ?_) fun he => ?_
  · refine bindK he fun x hx h1 => ?_
    obtain ⟨u, rfl⟩ := asS_rel hx ra
    obtain ⟨r, h2, rfl⟩ := Option.map_eq_some_iff.mp h1
    refine iteK h2 fun hc h3 => ?_
    injection h3 with h3
    rw [← h3] at h
    refine sub_tail (typeIs_str _ _ _) F.slot_str_getitem.lookup ((kinds _).sub hs _ _) (SB.getItem ?_ hc.2.2 h.str)
    unfold fitsSsize
    rw [decide_eq_false (Int.not_lt.mpr (Int.le_trans (by decide) hc.1)), decide_eq_false (Int.not_le.mpr (Int.lt_of_le_of_lt hc.2.1 (by decide)))]; rfl
  refine orK he (fun he => ?_) fun he => ?_
  · refine bindK he fun l hl h1 => ?_
    obtain ⟨pa, va, na, rfl, wa, la⟩ := asL_rel hl ra
    obtain ⟨r, h2, rfl⟩ := Option.map_eq_some_iff.mp h1
    refine bindK h2 fun j hj h3 => ?_
    obtain ⟨m, e, r'⟩ := la.get h3
    have il := IsL.isList wa.1
    exact sub_tail il.typeIs slot_list_getitem.lookup ((kinds _).sub hs _ _) (listItem_ok il (by rw [List.size_toArray, la.length]) hj (by rw [List.getElem?_toArray]; exact e) (h _ _ (keeps_refl s) r'))
  refine orK he (fun he => ?_) fun he => ?_
  · refine bindK he fun l hl h1 => iteK h1 fun hc h1 => ?_
    rw [asT_eq hl] at ra
    obtain ⟨pa, vs, na, rfl, wa, la⟩ := ra
    obtain ⟨r, h2, rfl⟩ := Option.map_eq_some_iff.mp h1
    obtain ⟨m, e, r'⟩ := la.get h2
    have lt : i.toNat < vs.length := (List.getElem?_eq_some_iff.mp e).1
    refine item_tupleT ⟨_, wa.1, rfl, na, rfl⟩ (Int.le_trans (by decide) hc.1) (Int.lt_of_le_of_lt hc.2 (by decide)) ?_ e (h _ _ (keeps_refl s) r') ((kinds _).sub hs _ _)
    unfold seqIndex?
    rw [if_neg (Int.not_lt.mpr hc.1), if_pos]
    rw [Bool.and_eq_true, decide_eq_true_eq, decide_eq_true_eq]
    exact ⟨hc.1, by omega⟩
  refine orK he (fun he => ?_) fun he => ?_
  · refine bindK he fun p hp h1 => ?_
    rw [asDs_eq hp] at ra
    obtain ⟨pa, o, vs, rfl, wa, da, la⟩ := ra
    obtain ⟨r, h2, rfl⟩ := Option.map_eq_some_iff.mp h1
    have im := da.map wa.1
    obtain ⟨m, e, r'⟩ := lookI_both (both_sca la) h2
    exact sub_tail im.typeIs slot_dict_getitem.lookup ((kinds _).sub hs _ _) (wpAny_getItem_intMap im e (h _ _ (keeps_tok _ _) r'))
  · refine bindK he fun p hp h1 => ?_
    rw [asDw_eq hp] at ra
    obtain ⟨pa, o, vs, rfl, wa, da, la⟩ := ra
    obtain ⟨r, h2, rfl⟩ := Option.map_eq_some_iff.mp h1
    have im := da.map wa.1
    obtain ⟨m, e, r'⟩ := lookI_both la h2
    exact sub_tail im.typeIs slot_dict_getitem.lookup ((kinds _).sub hs _ _) (wpAny_getItem_intMap im e (h _ _ (keeps_tok _ _) r'))
end

section
variable {c : Cx} {d : Nat} {sc : Sc} {ρ : Rho}

theorem sat_item {value slice pos a v} {i : Int} (hs : notSlice slice = true) (hl : Sat c d sc ρ value a) (hr : Sat c d sc ρ slice (.i i)) (hv : itemv a i = some v) : Sat c d sc ρ (.Subscript value slice pos) v := fun A env s hid Q E at_ h =>
  Subscript_ (hl A env s hid _ _ at_ fun ma s₁ k₁ ra => hr A env s₁ hid _ _ (at_.keeps k₁) fun mb s₂ k₂ rb => by
    obtain ⟨t, rfl⟩ := sca_int rb
    exact item_ok hs hv (ra.keeps k₂) (h.after (keeps_trans k₁ k₂)))

/-- the table of signs -/
theorem sat_tok (o : c.Ok) {np slice pos x i} (hs : notSlice slice = true) (hk : sc.lookup (Str.ofString "EXACT_TOKEN_TYPES") = some .globalImplicit) (hr : Sat c d sc ρ slice (.s x)) (hv : c.tok x = some i) :
    Sat c d sc ρ (.Subscript (.Name "EXACT_TOKEN_TYPES" np) slice pos) (.i i) := fun A env s hid Q E at_ h => by
  obtain ⟨a, f, hm, hmap, ht⟩ := o.tokOk
  obtain ⟨t, e⟩ := ht x i hv
  refine Subscript_ (global_ok o at_ hk hm (by decide) (hr A env s hid _ _ at_ fun mb s₂ k₂ rb => ?_))
  obtain ⟨u, rfl⟩ := sca_str rb
  have m2 : s₂.heap.MapOf (PySem.strKind c.prog c.w) a f := by
    obtain ⟨ob, es, ep, ho, r⟩ := hmap
    exact ⟨ob, es, ep, (at_.keeps k₂).ec.top _ _ ho, r⟩
  exact sub_tail m2.typeIs slot_dict_getitem.lookup ((kinds _).sub hs _ _) (wpAny_getItem_of (beq_self_eq_true x) m2 e (h.after k₂).int)

/-- a bound of a slice -/
noncomputable def SatO (c : Cx) (d : Nat) (sc : Sc) (ρ : Rho) (x : Option Expr) (i : Option Int) : Prop :=
  match x, i with
  | none, none => True
  | some e, some i => Sat c d sc ρ e (.i i)
  | _, _ => False
theorem satO {A : Around} {env : Env} {s : Shared} {hid : List Addr} {Q E} {x : Option Expr} {i : Option Int} (h : SatO c d sc ρ x i) (at_ : At c d sc ρ A env hid s.heap)
    (q : ∀ (p : Option (Int × Tok)) s', p.map (·.1) = i → Keeps s s' → Q (partValue p) s') : wpAny (model c.prog c.w) A (evalPart x env) Q E s := by
  cases x with
  | none =>
    cases i with
    | none => exact wpAny_pure (q none s rfl (keeps_refl s))
    | some _ => exact h.elim
  | some e =>
    cases i with
    | none => exact h.elim
    | some i => exact h A env s hid _ _ at_ fun mv s' k r => by obtain ⟨t, rfl⟩ := sca_int r; exact q (some (i, t)) s' rfl k
theorem partOf (p : Option (Int × Tok)) : IsPart (partValue p) (p.map (·.1)) := by
  cases p with
  | none => exact .none
  | some x => exact .int _ _

theorem slice_post {x : Str} {t : Tok} {pl pu : Option (Int × Tok)} {s : Shared} {Q : Value → Shared → Prop} (hc : x.length ≤ sizeLine) (h : ∀ t' k, Q (.str (Txt.slice x (pl.map (·.1)) (pu.map (·.1))) t') { s with toks := k }) : (sliceMade x t pl pu none).post Q s := by
  have hs := Txt.slice_le x (pl.map (·.1)) (pu.map (·.1))
  unfold Txt.slice at h hs
  exact post_val_or_str ⟨Nat.le_trans hs hc, h⟩
@[reducible] noncomputable def sliceO (a b e : Value) : Obj := { cls := .type "slice", data := .fields #[a, b, e] }
theorem sat_slice {value : Expr} {lo hi : Option Expr} {p pos} {a v : V} {l u : Option Int} (hl : Sat c d sc ρ value a) (hlo : SatO c d sc ρ lo l) (hhi : SatO c d sc ρ hi u) (hv : slicev a l u = some v) :
    Sat c d sc ρ (.Subscript value (.Slice lo hi none p) pos) v := fun A env s hid Q E at_ h =>
  Subscript_ (hl A env s hid _ _ at_ fun ma s₁ k₁ ra => wpAny_Slice (satO hlo (at_.keeps k₁) fun pl s₂ el k₂ =>
    satO hhi ((at_.keeps k₁).keeps k₂) fun pu s₃ eu k₃ => wpAny_pure (by
      have k := keeps_trans k₁ (keeps_trans k₂ k₃)
      have ra := (ra.keeps k₂).keeps k₃
      have g := push_grows s₃.heap (sliceO (partValue pl) (partValue pu) .none)
      have kp : Keeps s₃ { s₃ with heap := s₃.heap.push (sliceO (partValue pl) (partValue pu) .none) } := keeps_heap s₃.toks g
      have hb := (h.after k).after kp
      subst el eu
      refine orK hv (fun hv => ?_) fun hv => ?_
      · refine bindK hv fun x hx hv => ?_
        obtain ⟨t, rfl⟩ := asS_rel hx ra
        refine iteK hv fun hc hv => ?_
        injection hv with hv
        rw [← hv] at hb
        refine sub_tail (typeIs_str _ _ _) F.slot_str_getitem.lookup rfl (wpAny_getItem_str_slice (l := pl) (u := pu) (st := none) ⟨_, Heap.get?_push_size _ rfl, rfl, rfl⟩ rfl (slice_post (Nat.le_trans hc (by decide)) fun t' k' => hb.str))
      · refine bindK hv fun x hx hv => ?_
        obtain ⟨pa, va, na, rfl, wa, la⟩ := asL_rel hx ra
        refine iteK hv fun hc hv => ?_
        injection hv with hv
        rw [← hv] at hb
        have il := IsL.isList (g _ _ wa.1)
        have hlen : va.toArray.size = x.length := (List.size_toArray ..).trans la.length
        refine sub_tail il.typeIs slot_list_getitem.lookup rfl (wpAny_getItem_list_slice il (Heap.IsSliceOf.new ..) (partOf pl) (partOf pu) .none (fun e => nomatch e) ?_ (hlen ▸ Nat.le_trans hc (by decide)))
        rw [slicePick_plain, hlen]
        exact hb.list (((at_.keeps k).keeps kp).ho) (la.cut _ _) (k := s₃.toks))))

/-- a text from behind -/
theorem sat_back {value one : Expr} {p pos : Pos} {x : Str} (hl : Sat c d sc ρ value (.s x)) (hr : Sat c d sc ρ one (.i (-1))) (hc : x.length ≤ 9999) :
    Sat c d sc ρ (.Subscript value (.Slice none none (some one) p) pos) (.s (backS x)) := fun A env s hid Q E at_ h =>
  Subscript_ (hl A env s hid _ _ at_ fun ma s₁ k₁ ra => wpAny_Slice (wpAny_pure (wpAny_pure (hr A env s₁ hid _ _ (at_.keeps k₁) fun mb s₂ k₂ rb => by
      obtain ⟨t, rfl⟩ := sca_str ra
      obtain ⟨u, rfl⟩ := sca_int rb
      have g := push_grows s₂.heap (sliceO .none .none (.int (-1) u))
      have kp : Keeps s₂ { s₂ with heap := s₂.heap.push (sliceO .none .none (.int (-1) u)) } := keeps_heap s₂.toks g
      have hb := (h.after (keeps_trans k₁ k₂)).after kp
      refine sub_tail (ops := [.str x t, .ref s₂.heap.objs.size]) (typeIs_str _ _ _) F.slot_str_getitem.lookup rfl (wpAny_getItem_str_slice (l := none) (u := none) (st := some (-1, u)) ⟨_, Heap.get?_push_size _ rfl, rfl, rfl⟩ rfl ?_)
      refine ⟨?_, hb.str⟩
      show (backS x).cps.size ≤ sizeLine
      unfold backS
      rw [List.size_toArray]
      refine Nat.le_trans (List.length_filterMap_le _ _) ?_
      show (sliceRange _ _ _).length ≤ _
      unfold sliceRange
      rw [List.length_map, List.length_range]
      have : sizeLine = 16777216 := rfl
      simp only [show ¬ ((-1 : Int) > 0) by decide, if_false, show (-(-1) : Int) = 1 from rfl, Int.ediv_one]
      split <;> omega))))
end


noncomputable def one {α : Type} : List α → Option α
  | [a] => some a
  | _ => none
noncomputable def two {α : Type} : List α → Option (α × α)
  | [a, b] => some (a, b)
  | _ => none
theorem one_eq {α : Type} {l : List α} {a} (h : one l = some a) : l = [a] := by
  cases l with
  | nil => injection h
  | cons x l => cases l with
    | nil => injection h with h; rw [h]
    | cons _ _ => injection h
theorem two_eq {α : Type} {l : List α} {a} (h : two l = some a) : l = [a.1, a.2] := by
  cases l with
  | nil => injection h
  | cons x l => cases l with
    | nil => injection h
    | cons y l => cases l with
      | nil => injection h with h; rw [← h]
      | cons _ _ => injection h
theorem ln1 {α : Type} {l : List α} (h : l.length = 1) : ∃ x, l = [x] := List.length_eq_one_iff.mp h
theorem ln2 {α : Type} {l : List α} (h : l.length = 2) : ∃ x y, l = [x, y] := by
  cases l with
  | nil => injection h
  | cons x l => obtain ⟨y, rfl⟩ := ln1 (Nat.succ.inj h); exact ⟨x, y, rfl⟩
theorem ln3 {α : Type} {l : List α} (h : l.length = 3) : ∃ x y z, l = [x, y, z] := by
  cases l with
  | nil => injection h
  | cons x l => obtain ⟨y, z, rfl⟩ := ln2 (Nat.succ.inj h); exact ⟨x, y, z, rfl⟩
theorem ln4 {α : Type} {l : List α} (h : l.length = 4) : ∃ x y z u, l = [x, y, z, u] := by
  cases l with
  | nil => injection h
  | cons x l => obtain ⟨y, z, u, rfl⟩ := ln3 (Nat.succ.inj h); exact ⟨x, y, z, u, rfl⟩
theorem both1 {α : Type} {F : α → Value → Prop} {v : α} {ms} (r : Both F [v] ms) : ∃ m, ms = [m] ∧ F v m := by
  cases r with | cons r rs => cases rs; exact ⟨_, rfl, r⟩
theorem both2 {α : Type} {F : α → Value → Prop} {v v' : α} {ms} (r : Both F [v, v'] ms) : ∃ m m', ms = [m, m'] ∧ F v m ∧ F v' m' := by
  cases r with | cons r rs => obtain ⟨m', rfl, r'⟩ := both1 rs; exact ⟨_, _, rfl, r, r'⟩

/-! built-ins that are called -/
inductive BI where
  | len | list | tuple | max
noncomputable def BI.v : BI → Value
  | .len => .builtin "len"
  | .list => .type "list"
  | .tuple => .type "tuple"
  | .max => .builtin "max"
noncomputable def biTab : List (Str × BI) := [("len", .len), ("list", .list), ("tuple", .tuple), ("max", .max)]
noncomputable def small {α : Type} (l : List α) : Bool := decide (l.length ≤ 9999)
noncomputable def lenV (v : V) : Option Int :=
  (v.asL.bind fun l => if small l = true then some (l.length : Int) else none).or
    ((v.asT.bind fun l => if small l = true then some (l.length : Int) else none).or (v.asS.bind fun x => if x.length ≤ 9999 then some (x.length : Int) else none))
noncomputable def chars (y : Str) : List S := y.cps.toList.map fun k => .str ⟨#[k]⟩
noncomputable def bicall : BI → List V → Option V
  | .len, vs => (one vs).bind fun v => (lenV v).map V.i
  | .list, vs => (one vs).bind fun v => v.asS.bind fun y => if y.length ≤ 9999 then some (.list (chars y)) else none
  | .tuple, vs => (one vs).bind fun v => v.asL.bind fun l => if small l = true then some (.tup l) else none
  | .max, vs => (two vs).bind fun p => p.1.asI.bind fun a => p.2.asI.bind fun b => some (.i (if b > a then b else a))

section
variable {c : Cx} {d : Nat} {sc : Sc} {ρ : Rho} {A : Around} {env : Env} {s : Shared} {hid : List Addr} {E : Value → Shared → Prop} {Q : Value → Shared → Prop}

theorem keeper_any {M : Model} {K : Frag} {f : Value} (hk : keepIn K f = true ∨ ∀ a, f ≠ .ref a) (h : Heap) (X : K.In h) : ∃ k, (k = Keeper.frame ∨ k = Keeper.machine ∨ k = Keeper.boundFrame) ∧ Looks M h (keeperOf f) k := by
  rcases hk with hk | hk
  · exact keeps_K hk h X
  · refine ⟨.machine, .inr (.inl rfl), Looks.of_pure ?_⟩
    cases f <;> first | rfl | exact absurd rfl (hk _)

theorem callWith_ok (o : c.Ok) {f : Value} {first : List Value} {pos : Pos} {es : List Expr} {vs : List V} (hk : keepIn c.K f = true ∨ ∀ a, f ≠ .ref a) (ha : SatL c d sc ρ es vs) (at_ : At c d sc ρ A env hid s.heap)
    (h : ∀ ms s', Keeps s s' → Both (RelV c.C (vw s'.heap hid)) vs ms → wpAny (model c.prog c.w) A (call f (first ++ ms)) Q E s') :
    wpAny (model c.prog c.w) A (callWith pos f first (backTo pos (starEach es env)) []) Q E s := by
  have X : ∀ s', Keeps s s' → c.K.In s'.heap := fun s' k => o.KIn.keeps (at_.keeps k).ec.top
  cases ha with
  | nil => exact callWith_of (P := fun h => c.K.In h) rfl (keeper_any hk) (evalArgs_nil3 ⟨X s (keeps_refl s), h [] s (keeps_refl s) .nil⟩)
  | cons hs he hr =>
    have ha := SatL.cons hs he hr
    have hw := ha.run (pos := pos) (E := E) (Q := fun ms s' => c.K.In s'.heap ∧ wpAny (model c.prog c.w) A (call f (first ++ ms)) Q E s') at_ fun ms s' k r => ⟨X s' k, h ms s' k r⟩
    refine callWith_of (P := fun h => c.K.In h) (by rw [ha.plain]; rfl) (keeper_any hk) ?_
    rw [(kinds _).star hs] at hw ⊢
    exact Calls.evalArgs_plain hw

theorem eval_Call_name {x : Str} {np pos : Pos} {es : List Expr} : eval (.Call (.Name x np) es [] pos) env = (do callWith pos (← eval (.Name x np) env) [] (backTo pos (starEach es env)) []) := rfl

theorem len_ok {v : V} {m : Value} {i : Int} (hv : lenV v = some i) (r : RelV c.C (vw s.heap hid) v m) (h : ∀ k t, Q (.int i t) { s with toks := k }) : wpAny (model c.prog c.w) A (call (.builtin "len") [m]) Q E s := by
  have fit : ∀ n : Nat, n ≤ 9999 → (n : Int) < 2 ^ 63 := fun n h => Int.lt_of_le_of_lt (Int.ofNat_le.mpr h) (by decide)
  refine orK hv (fun hv => ?_) fun hv => ?_
  · refine bindK hv fun l hl h1 => ?_
    refine iteK h1 fun hc h2 => ?_
    injection h2 with h2
    obtain ⟨pa, va, na, rfl, wa, la⟩ := asL_rel hl r
    have e : va.toArray.size = l.length := (List.size_toArray ..).trans la.length
    exact call_len_list (IsL.isList wa.1) (e ▸ fit _ (of_decide_eq_true hc)) (by rw [e, h2]; exact h _ _)
  refine orK hv (fun hv => ?_) fun hv => ?_
  · refine bindK hv fun l hl h1 => ?_
    refine iteK h1 fun hc h2 => ?_
    injection h2 with h2
    rw [asT_eq hl] at r
    obtain ⟨pa, va, na, rfl, wa, la⟩ := r
    have e : va.toArray.size = l.length := (List.size_toArray ..).trans la.length
    exact len_tuple (items := va.toArray) ⟨_, wa.1, rfl, _, rfl⟩ (e ▸ fit _ (of_decide_eq_true hc)) (by rw [e, h2]; exact h _ _)
  · refine bindK hv fun x hx h1 => ?_
    refine iteK h1 fun hc h2 => ?_
    injection h2 with h2
    obtain ⟨t, rfl⟩ := asS_rel hx r
    exact P.len_str (Int.not_le.mpr (fit _ hc)) (h2 ▸ h _ _)

theorem bicall_ok {b : BI} {vs : List V} {v : V} {ms : List Value} (hv : bicall b vs = some v) (hh : A.handled = none) (ho : HidOk hid s.heap) (r : Both (RelV c.C (vw s.heap hid)) vs ms)
    (h : Back c.C hid s v Q) : wpAny (model c.prog c.w) A (call b.v ms) Q E s := by
  cases b with
  | len =>
    refine bindK hv fun x h1 h2 => ?_
    rw [one_eq h1] at r
    obtain ⟨m, rfl, r1⟩ := both1 r
    obtain ⟨i, h3, rfl⟩ := Option.map_eq_some_iff.mp h2
    exact len_ok h3 r1 fun k t => h.int
  | list =>
    refine bindK hv fun x h1 h2 => ?_
    rw [one_eq h1] at r
    obtain ⟨m, rfl, r1⟩ := both1 r
    refine bindK h2 fun y h3 h4 => ?_
    obtain ⟨t, rfl⟩ := asS_rel h3 r1
    refine iteK h4 fun hc h5 => ?_
    injection h5 with h5
    refine call_list_str hh y t (fun h' tk acc' c' hk hS hI => ?_) (Nat.le_trans hc (by decide))
    rw [← h5] at h
    refine h _ _ ⟨h', tk, rfl, hk⟩ ⟨_, acc'.toList, c', rfl, ⟨by show h'.get? _ = some { cls := .type "list", data := .seq acc'.toList.toArray c' }; rw [Array.toArray_toList]; exact hS, ho.new (Nat.le_refl _)⟩, List.ext_getElem? fun j => ?_⟩
    unfold chars
    rw [List.getElem?_map, List.getElem?_map, List.getElem?_map, Array.getElem?_toList, Array.getElem?_toList]
    cases e : acc'[j]? with
    | none => rw [Array.getElem?_eq_none (hI.1 ▸ Array.getElem?_eq_none_iff.mp e)]; rfl
    | some m =>
      obtain ⟨k, u, hk', rfl⟩ := hI.2 j m e
      rw [hk']; rfl
  | tuple =>
    refine bindK hv fun x h1 h2 => ?_
    rw [one_eq h1] at r
    obtain ⟨m, rfl, r1⟩ := both1 r
    refine bindK h2 fun l h3 h4 => ?_
    refine iteK h4 fun hc h5 => ?_
    injection h5 with h5
    obtain ⟨pa, va, na, rfl, wa, la⟩ := asL_rel h3 r1
    have e : va.toArray.size = l.length := (List.size_toArray ..).trans la.length
    rw [← h5] at h
    refine call_tuple_list (IsL.isList wa.1) (fun h' hk => ?_) (e ▸ Nat.le_trans (of_decide_eq_true hc) (by decide))
    have g : Grows s.heap (h'.push { cls := .type "tuple", data := .seq va.toArray }) := fun b o e => Heap.get?_push_of_some _ (hk b o e)
    exact h _ _ (keeps_heap s.toks g) ⟨_, va, 0, rfl, vw_push (ho.grows hk) rfl, la⟩
  | max =>
    refine bindK hv fun p h1 h2 => ?_
    rw [two_eq h1] at r
    obtain ⟨m, m', rfl, r1, r2⟩ := both2 r
    refine bind2K h2 fun a b ha hb h3 => ?_
    injection h3 with h3
    obtain ⟨t, rfl⟩ := asI_rel ha r1
    obtain ⟨u, rfl⟩ := asI_rel hb r2
    rw [← h3] at h
    refine max_two_ints hh fun h' tk hk => h _ _ ⟨h', tk, rfl, hk⟩ ?_
    by_cases hc : b > a
    · rw [if_pos hc, if_pos hc]; rfl
    · rw [if_neg hc, if_neg hc]; rfl

theorem biTab_ok : ∀ p ∈ biTab, bootBuiltins p.1 = some p.2.v ∧ p.1 ≠ "__name__" ∧ (p.1 = "len" ∨ p.1 = "list" ∨ p.1 = "tuple" ∨ p.1 = "max" ∨ p.1 = "range" ∨ p.1 = "enumerate") ∧ ∀ a, p.2.v ≠ .ref a := by
  unfold biTab
  refine List.forall_mem_cons.mpr ⟨⟨by decide +kernel, by decide, .inl rfl, fun a => nofun⟩, List.forall_mem_cons.mpr ⟨⟨by decide +kernel, by decide, .inr (.inl rfl), fun a => nofun⟩, List.forall_mem_cons.mpr ⟨⟨by decide +kernel, by decide, .inr (.inr (.inl rfl)), fun a => nofun⟩,
    List.forall_mem_cons.mpr ⟨⟨by decide +kernel, by decide, .inr (.inr (.inr (.inl rfl))), fun a => nofun⟩, fun _ h => nomatch h⟩⟩⟩⟩
theorem builtin_ok {M : Model} (ok : c.Ok) {x : Str} {np : Pos} {fv : Value} (at_ : At c d sc ρ A env hid s.heap) (hk : sc.lookup x = some .globalImplicit) (hd : okName x = true) (hb : bootBuiltins x = some fv) (hn : x ≠ "__name__")
    (hf : x = "len" ∨ x = "list" ∨ x = "tuple" ∨ x = "max" ∨ x = "range" ∨ x = "enumerate") (h : Q fv s) : wpAny M A (eval (.Name x np) env) Q E s :=
  Name_function_global at_.ec.kind ((at_.ec.kindOf x).trans hk) (loadGlobal_builtin (env := env) (by rw [at_.ec.glob]; exact ok.g.keeps at_.ec.top) (ok.free x hf) (by rw [at_.ec.bi]; exact ok.b.keeps at_.ec.top) ((ok.boot x hn).trans hb) h) (okName_of hd).1
end

section
variable {c : Cx} {d : Nat} {sc : Sc} {ρ : Rho}
theorem sat_bicall (ok : c.Ok) {f : Str} {np pos : Pos} {es : List Expr} {vs : List V} {v : V} {b : BI} (hk : sc.lookup f = some .globalImplicit) (hd : okName f = true) (hf : biTab.lookup f = some b) (ha : SatL c d sc ρ es vs) (hv : bicall b vs = some v) :
    Sat c d sc ρ (.Call (.Name f np) es [] pos) v := fun A env s hid Q E at_ h => by
  rw [eval_Call_name]
  obtain ⟨h1, h2, h3, h4⟩ := biTab_ok (f, b) (mem_of_lookup hf)
  refine wpAny_bind (builtin_ok ok at_ hk hd h1 h2 h3 (callWith_ok (f := b.v) (first := []) ok (.inr h4) ha at_ fun ms s₂ k₂ r₂ => bicall_ok hv at_.R.hh (at_.keeps k₂).ho r₂ (h.after k₂)))

/-- what the text's own functions yield -/
@[reducible] noncomputable def Fn := Str → List V → Option V
noncomputable def CallOk (c : Cx) (d : Nat) (f : Value) (vs : List V) (v : V) : Prop :=
  ∀ (A : Around) (s : Shared) (hid : List Addr) (ms : List Value) (Q : Value → Shared → Prop) (E : Value → Shared → Prop), Room A d → Grows c.H s.heap → HidOk hid s.heap → Both (RelV c.C (vw s.heap hid)) vs ms → Back c.C hid s v Q →
    wpAny (model c.prog c.w) A (call f ms) Q E s
structure FSound (c : Cx) (d : Nat) (F M : Fn) : Prop where
  fn : ∀ f vs v, F f vs = some v → ∃ fv, c.fa f = some fv ∧ CallOk c d fv vs v
  meth : ∀ f vs v, M f vs = some v → ∃ a, c.ma f = some a ∧ CallOk c d (.ref a) vs v

theorem sat_call (ok : c.Ok) {F M : Fn} (fs : FSound c d F M) {f : Str} {np pos : Pos} {es : List Expr} {vs : List V} {v : V} (hk : sc.lookup f = some .globalImplicit) (hd : okName f = true) (ha : SatL c d sc ρ es vs) (hv : F f vs = some v) :
    Sat c d sc ρ (.Call (.Name f np) es [] pos) v := fun A env s hid Q E at_ h => by
  obtain ⟨fv, hf, hc⟩ := fs.fn f vs v hv
  rw [eval_Call_name]
  refine wpAny_bind (global_ok ok at_ hk (ok.faOk f fv hf) hd ?_)
  exact callWith_ok (f := fv) (first := []) ok (.inl (ok.keep f fv hf)) ha at_ fun ms s₂ k₂ r₂ => hc A s₂ hid ms Q E at_.R (at_.keeps k₂).ec.top (at_.keeps k₂).ho r₂ (h.after k₂)

/-! methods -/
theorem call_meth {A : Around} {env : Env} {s : Shared} {E : Value → Shared → Prop} {Q : Value → Shared → Prop} {M : Model} {o : Expr} {name : Str} {apos pos : Pos} {es : List Expr}
    (hb : plainBase o = true) (hp : (backTo pos (starEach es env)).any (·.1) = false) (hlen : es.length < 29) (hline : (apos.endLine == pos.line) = true)
    (h : wpAny M A (eval o env) (fun ov s₁ => ∀ pl, wpAny M A (getMethod ov name pl) (fun r s₂ => wpAny M A (callWith pos r.1 r.2 (backTo pos (starEach es env)) []) Q E s₂) E s₁) E s) :
    wpAny M A (eval (.Call (.Attribute o name apos) es [] pos) env) Q E s := by
  rw [arm_eval_Call, (kinds _).base hb]
  refine wpAny_bind (wpAny_mono h (fun ov s₁ h₁ => wpAny_bind (wpAny_standAt ?_)) fun _ _ e => e)
  have hform : methodCallForm (es.length + ([] : List Keyword).length) (backTo pos (starEach es env)) (backToKw pos (keywordEach [] env)) = true := by
    have h1 : (backTo pos (starEach es env)).all (!·.1) = true := by rw [List.all_eq_not_any_not]; simpa using hp
    show ((backTo pos (starEach es env)).all (!·.1) && true && decide (es.length + 0 + 0 < 30)) = true
    rw [h1, decide_eq_true (show es.length + 0 + 0 < 30 from Nat.lt_succ_of_lt hlen)]
    rfl
  have hpos : methodCallPos true o env apos pos = pure pos := by unfold methodCallPos; rw [hline]; rfl
  unfold methodCall
  rw [hform]
  refine wpAny_bind (wpAny_holding (wpAny_mono (h₁ _) (fun r s₂ h₂ => ?_) fun _ _ e => e))
  exact wpAny_bind (wpAny_of_eq hpos h₂)

inductive SM where
  | strip | rstrip | split | find | index | join
noncomputable def SM.id : SM → String
  | .strip => "str.strip"
  | .rstrip => "str.rstrip"
  | .split => "str.split"
  | .find => "str.find"
  | .index => "str.index"
  | .join => "str.join"
noncomputable def smTab : List (Str × SM) := [("strip", .strip), ("rstrip", .rstrip), ("split", .split), ("find", .find), ("index", .index), ("join", .join)]
theorem smTab_ok : ∀ p ∈ smTab, Slot "str" p.1 p.2.id ∧ typeOf (.builtin p.2.id) = pure (.type "method_descriptor") := by
  unfold smTab
  exact List.forall_mem_cons.mpr ⟨⟨F.slot_str_strip, F.type_str_strip⟩, List.forall_mem_cons.mpr ⟨⟨F.slot_str_rstrip, F.type_str_rstrip⟩, List.forall_mem_cons.mpr ⟨⟨F.slot_str_split, F.type_str_split⟩,
    List.forall_mem_cons.mpr ⟨⟨F.slot_str_find, F.type_str_find⟩, List.forall_mem_cons.mpr ⟨⟨F.slot_str_index, F.type_str_index⟩, List.forall_mem_cons.mpr ⟨⟨F.slot_str_join, F.type_str_join⟩, fun _ h => nomatch h⟩⟩⟩⟩⟩⟩

open Builtin Builtin.Str in
theorem gives_find4 (x y : PySem.Str) (i j : Int) (t u v v' : Tok) : Gives («str.find» ⟨[.str x t, .str y u, .int i v, .int j v'], []⟩)
    (.int (match occurrences x y (fromIndex x.length i) (min (fromIndex x.length j) x.length) 1 with | k :: _ => (k : Int) | [] => -1)) := by
  show Gives (match occurrences x y (fromIndex x.length i) (min (fromIndex x.length j) x.length) 1 with | k :: _ => retInt k | [] => (do rule "str.find.not-found"; retInt (-1))) _
  cases occurrences x y (fromIndex x.length i) (min (fromIndex x.length j) x.length) 1 with
  | nil => exact .rule (.of_eq rfl)
  | cons k _ => exact .of_eq rfl
noncomputable def find4 (x y : Str) (i j : Int) : Int := match Builtin.Str.occurrences x y (fromIndex x.length i) (min (fromIndex x.length j) x.length) 1 with | k :: _ => (k : Int) | [] => -1
noncomputable def none? {α : Type} : List α → Option Unit
  | [] => some ()
  | _ => none
theorem none_eq {α : Type} {l : List α} {u} (h : none? l = some u) : l = [] := by
  cases l with
  | nil => rfl
  | cons _ _ => injection h
noncomputable def three {α : Type} : List α → Option (α × α × α)
  | a :: l => (two l).map (a, ·)
  | _ => none
noncomputable def strmeth : SM → Str → List V → Option V
  | .strip, x, vs => (none? vs).bind fun _ => if x.length ≤ 9999 then some (.s (Txt.strip x)) else none
  | .rstrip, x, vs => (none? vs).bind fun _ => if x.length ≤ 9999 then some (.s (Txt.rstrip x)) else none
  | .split, x, vs => (one vs).bind fun v => v.asS.bind fun y => if x.length ≤ 9999 ∧ (y.length == 0) = false ∧ (Txt.split x y).length ≤ 9999 then some (.list ((Txt.split x y).map .str)) else none
  | .find, x, vs => (three vs).bind fun p => p.1.asS.bind fun y => p.2.1.asI.bind fun i => p.2.2.asI.bind fun j => some (.i (find4 x y i j))
  | .index, x, vs => (one vs).bind fun v => v.asS.bind fun y => (Builtin.Str.occurrences x y 0 x.length 1).head?.map fun k => .i k
  | .join, x, vs => (one vs).bind fun v => v.asL.bind fun l => (allStr l).bind fun ts => if JoinOk x ts = true then some (.s (Txt.join x ts)) else none

theorem rel_strs (q : List (Str × Tok)) : RelL ((q.map (·.1)).map .str) (strValues q) := by
  induction q with
  | nil => rfl
  | cons x q ih => unfold RelL at ih ⊢; exact congrArg (some (S.str x.1) :: ·) ih

section
variable {A : Around} {s : Shared} {hid : List Addr} {E : Value → Shared → Prop} {Q : Value → Shared → Prop}
open Builtin Builtin.Str in
theorem split_ok {x y : PySem.Str} {t u : Tok} (hx : x.length ≤ 9999) (hy : (y.length == 0) = false) (hl : (Txt.split x y).length ≤ 9999) (hn : HidOk hid s.heap) (h : Back c.C hid s (.list ((Txt.split x y).map .str)) Q) :
    wpAny (model c.prog c.w) A (call (.builtin "str.split") [.str x t, .str y u]) Q E s := by
  have one : ∀ k, Txt.split x y = [x] → Q (.ref s.heap.objs.size) { s with heap := s.heap.push { cls := .type "list", data := .seq [Value.str x t].toArray }, toks := k } := fun k e => by
    rw [e] at h
    exact h.list hn rfl
  cases h1 : (decide (x.length < y.length) || decide (Builtin.Str.strKind x < Builtin.Str.strKind y))
  · cases hf : (occurrences x y 0 x.length (x.length + 1)).isEmpty
    · have e : Txt.split x y = partsBetween x (occurrences x y 0 x.length (x.length + 1)) y.length := (if_neg (ne_true_of_eq_false h1)).trans (if_neg (ne_true_of_eq_false hf))
      refine call_meets F.slot_str_split (typeIs_str _ _ _) F.entry_str_split (F.args_str_split_2 _ _) (meets_str_split_sep x y t u h1 hy hf (Nat.le_trans hx (by decide)) (e ▸ Nat.le_trans hl (by decide))) ?_
      show wants Q E _ { s with toks := _, heap := s.heap.push { cls := .type "list", data := .seq (strsFrom s.toks (partsBetween x (occurrences x y 0 x.length (x.length + 1)) y.length)).toArray } }
      rw [strsFrom_eq]
      refine h.list hn ?_
      have e2 : Txt.split x y = (numbered s.toks (partsBetween x (occurrences x y 0 x.length (x.length + 1)) y.length)).map (·.1) := (numbered_texts _ _).symm ▸ e
      rw [e2]
      exact rel_strs _
    · exact call_meets F.slot_str_split (typeIs_str _ _ _) F.entry_str_split (F.args_str_split_2 _ _) (meets_str_split_not_found x y t u h1 hy hf) (one s.toks ((if_neg (ne_true_of_eq_false h1)).trans (if_pos hf)))
  · exact call_meets F.slot_str_split (typeIs_str _ _ _) F.entry_str_split (F.args_str_split_2 _ _) (meets_str_split_cannot_occur x y t u h1) (one s.toks (if_pos h1))

theorem strmeth_ok {m : SM} {x : Str} {t : Tok} {vs : List V} {ms : List Value} {v : V} (hv : strmeth m x vs = some v) (ho : HidOk hid s.heap) (r : Both (RelV c.C (vw s.heap hid)) vs ms)
    (h : Back c.C hid s v Q) : wpAny (model c.prog c.w) A (call (.builtin m.id) (.str x t :: ms)) Q E s := by
  cases m with
  | strip =>
    refine bindK hv fun _ h1 h2 => ?_
    rw [none_eq h1] at r
    refine iteK h2 fun hc h3 => ?_
    injection h3 with h3
    rw [← h3] at h
    cases r
    exact call_gives F.slot_str_strip (typeIs_str _ _ _) F.entry_str_strip (F.args_str_strip_1 _) (gives_str_strip x t) (post_val_or_made (fun _ => fits_stripped _ _ _ (Nat.le_trans hc (by decide))) fun t' k => h.str)
  | rstrip =>
    refine bindK hv fun _ h1 h2 => ?_
    rw [none_eq h1] at r
    refine iteK h2 fun hc h3 => ?_
    injection h3 with h3
    rw [← h3] at h
    cases r
    exact call_gives F.slot_str_rstrip (typeIs_str _ _ _) F.entry_str_rstrip (F.args_str_rstrip_1 _) (gives_str_rstrip x t) (post_val_or_made (fun _ => fits_stripped _ _ _ (Nat.le_trans hc (by decide))) fun t' k => h.str)
  | split =>
    refine bindK hv fun a h1 h2 => ?_
    rw [one_eq h1] at r
    obtain ⟨m, rfl, r1⟩ := both1 r
    refine bindK h2 fun y h3 h4 => ?_
    obtain ⟨u, rfl⟩ := asS_rel h3 r1
    refine iteK h4 fun hc h5 => ?_
    injection h5 with h5
    exact split_ok hc.1 hc.2.1 hc.2.2 ho (h5 ▸ h)
  | find =>
    refine bindK hv fun p h1 h2 => ?_
    cases vs with
    | nil => injection h1
    | cons a l =>
      obtain ⟨p', h1', rfl⟩ := Option.map_eq_some_iff.mp h1
      rw [two_eq h1'] at r
      cases r with | cons r1 r =>
      obtain ⟨m', m'', rfl, r2, r3⟩ := both2 r
      refine bindK h2 fun y hy h3 => ?_
      refine bind2K h3 fun i j hi hj h4 => ?_
      injection h4 with h4
      obtain ⟨u, rfl⟩ := asS_rel hy r1
      obtain ⟨u1, rfl⟩ := asI_rel hi r2
      obtain ⟨u2, rfl⟩ := asI_rel hj r3
      rw [← h4] at h
      exact call_gives F.slot_str_find (typeIs_str _ _ _) F.entry_str_find (F.args_str_find_4 _ _ _ _) (gives_find4 x _ _ _ t _ _ _) h.int
  | index =>
    refine bindK hv fun a h1 h2 => ?_
    rw [one_eq h1] at r
    obtain ⟨m, rfl, r1⟩ := both1 r
    refine bindK h2 fun y h3 h4 => ?_
    obtain ⟨u, rfl⟩ := asS_rel h3 r1
    obtain ⟨k, h5, rfl⟩ := Option.map_eq_some_iff.mp h4
    cases e : Builtin.Str.occurrences x y 0 x.length 1 with
    | nil => rw [e] at h5; injection h5
    | cons k' rest =>
      rw [e] at h5; injection h5 with h5
      exact call_gives F.slot_str_index (typeIs_str _ _ _) F.entry_str_index (F.args_str_index_2 _ _) (gives_str_index x _ t _ k' rest e) (h5 ▸ h.int)
  | join =>
    refine bindK hv fun a h1 h2 => ?_
    rw [one_eq h1] at r
    obtain ⟨m, rfl, r1⟩ := both1 r
    refine bindK h2 fun l h3 h4 => ?_
    refine bindK h4 fun ts h5 h6 => ?_
    refine iteK h6 fun hc h7 => ?_
    injection h7 with h7
    obtain ⟨pa, va, na, rfl, wa, la⟩ := asL_rel h3 r1
    obtain ⟨q, rfl, rfl⟩ := allStr_ok h5 la
    rw [← h7] at h
    unfold JoinOk at hc
    rw [Bool.not_eq_true'] at hc
    exact call_meets F.slot_str_join (typeIs_str _ _ _) F.entry_str_join (F.args_str_join_2 _ _) (meets_str_join_list x t _ q hc) ⟨IsL.isList wa.1, post_join q ⟨joinFit_length hc, fun t' k => h.str⟩⟩
end

theorem sat_strmeth (ok : c.Ok) {o : Expr} {name : Str} {apos pos : Pos} {es : List Expr} {x : Str} {vs : List V} {v : V} {m : SM} (hb : plainBase o = true) (hlen : es.length < 29) (hline : (apos.endLine == pos.line) = true)
    (hi : smTab.lookup name = some m) (hx : Sat c d sc ρ o (.s x)) (ha : SatL c d sc ρ es vs) (hv : strmeth m x vs = some v) : Sat c d sc ρ (.Call (.Attribute o name apos) es [] pos) v := fun A env s hid Q E at_ h => by
  refine call_meth hb (ha.plain env pos) hlen hline (hx A env s hid _ _ at_ fun mv s₁ k₁ r₁ pl => ?_)
  obtain ⟨t, rfl⟩ := sca_str r₁
  obtain ⟨sl, ty⟩ := smTab_ok (name, m) (mem_of_lookup hi)
  refine getMethod_builtin (typeIs_str _ _ _) F.plainAttrs_str sl ty (fun _ e => nomatch e) ?_
  exact callWith_ok (f := .builtin m.id) (first := [.str x _]) ok (.inr fun a e => nomatch e) ha (at_.keeps k₁) fun ms s₂ k₂ r₂ =>
    strmeth_ok hv ((at_.keeps k₁).keeps k₂).ho r₂ (h.after (keeps_trans k₁ k₂))
end


/-! a thing of the class: what is read off it -/
inductive AT where
  | raw | n | nt | norm | simple
noncomputable def atTab : List (Str × AT) := [("raw", .raw), ("n", .n), ("nt", .nt), ("norm", .norm), ("is_simple", .simple)]
noncomputable def AT.get (x : WS) : AT → V
  | .raw => .s x.raw
  | .n => .i x.n
  | .nt => .i x.nt
  | .norm => .norm x.count x.b
  | .simple => .t x.simple
noncomputable def V.asW : V → Option WS
  | .ws x => some x
  | _ => none
theorem asW_eq {v : V} {l : WS} (h : v.asW = some l) : v = .ws l := by
  cases v with
  | ws x => injection h with h; rw [h]
  | _ => injection h

theorem atTab_ok : ∀ p ∈ atTab, (p.1 = "raw" ∨ p.1 = "n" ∨ p.1 = "nt" ∨ p.1 = "norm" ∨ p.1 = "is_simple") ∧
    ∀ {C : Addr} {W : View} {x : WS} {a d : Addr} {o : Obj} {q : Value} {t1 t2 t3 : Tok}, RelWSd C W x a d o q t1 t2 t3 → ∃ mv, lookIn p.1 o = some (some mv) ∧ handedIn mv = true ∧ RelV C W (p.2.get x) mv := by
  unfold atTab
  refine List.forall_mem_cons.mpr ⟨⟨.inl rfl, fun h => ⟨_, h.raw, rfl, rfl⟩⟩, List.forall_mem_cons.mpr ⟨⟨.inr (.inl rfl), fun h => ⟨_, h.n, rfl, rfl⟩⟩, List.forall_mem_cons.mpr ⟨⟨.inr (.inr (.inl rfl)), fun h => ⟨_, h.nt, rfl, rfl⟩⟩,
    List.forall_mem_cons.mpr ⟨⟨.inr (.inr (.inr (.inl rfl))), fun h => ⟨_, h.norm, ?_, h.pn⟩⟩, List.forall_mem_cons.mpr ⟨⟨.inr (.inr (.inr (.inr rfl))), fun h => ⟨_, h.simple, rfl, rfl⟩⟩, fun _ h => nomatch h⟩⟩⟩⟩⟩
  obtain ⟨a, q, t, n, rfl, _⟩ := h.pn
  rfl

theorem instAt {h : Heap} {C a d : Addr} {o : Obj} (h1 : h.get? a = some (instObj C d)) (h2 : h.get? d = some o) : PySem.W.InstAt h a (instObj C d) C (some o) := ⟨h1, rfl, rfl, h2⟩

section
variable {c : Cx} {d : Nat} {sc : Sc} {ρ : Rho}

theorem attr_ok (ok : c.Ok) {A : Around} {s : Shared} {E : Value → Shared → Prop} {Q : Value → Shared → Prop} {a dx : Addr} {o : Obj} {x : Str} {mv : Value} (X : Grows c.H s.heap) (h1 : s.heap.get? a = some (instObj c.C dx)) (h2 : s.heap.get? dx = some o)
    (hx : x = "raw" ∨ x = "n" ∨ x = "nt" ∨ x = "norm" ∨ x = "is_simple") (hl : lookIn x o = some (some mv)) (hh : handedIn mv = true) (h : Q mv { s with toks := s.toks + 1 }) :
    wpAny (model c.prog c.w) A (getAttr (.ref a) x true) Q E s :=
  get_value (ok.KIn.keeps X) (instAt h1 h2) (plainGet_of ok.cls.1).1 (findObj_own ok.cls.2 (ok.attr x hx) rfl hl) hh h

theorem sat_attr (ok : c.Ok) {n x : Str} {np pos : Pos} {k : AT} {w : WS} (hk : atTab.lookup x = some k) (hn : Sat c d sc ρ (.Name n np) (.ws w)) : Sat c d sc ρ (.Attribute (.Name n np) x pos) (k.get w) := fun A env s hid Q E at_ h => by
  refine Attribute_name (hn A env s hid _ _ at_ fun mv s₁ k₁ r₁ => ?_)
  obtain ⟨a, dx, o, q, t1, t2, t3, rfl, r⟩ := r₁
  obtain ⟨h1, h2⟩ := atTab_ok (x, k) (mem_of_lookup hk)
  obtain ⟨mv, e, hh, rv⟩ := h2 r
  exact attr_ok ok (at_.keeps k₁).ec.top r.at_.1 r.dict.1 h1 e hh (h _ _ (keeps_trans k₁ (keeps_tok _ _)) rv)

/-- a thing in the making -/
noncomputable def V.asP : V → Option Str
  | .part _ raw => raw
  | _ => none
theorem sat_part (ok : c.Ok) {n : Str} {np pos : Pos} {v : V} {t : Str} (hn : Sat c d sc ρ (.Name n np) v) (h : v.asP = some t) : Sat c d sc ρ (.Attribute (.Name n np) "raw" pos) (.s t) := fun A env s hid Q E at_ k => by
  refine Attribute_name (hn A env s hid _ _ at_ fun mv s₁ k₁ r₁ => ?_)
  cases v with
  | part x raw =>
    obtain ⟨rfl, r⟩ := r₁
    obtain ⟨dx, o, tk, w1, w2, e⟩ := r t h
    exact attr_ok ok (at_.keeps k₁).ec.top w1.1 w2.1 (.inl rfl) e rfl (k _ _ (keeps_trans k₁ (keeps_tok _ _)) rfl)
  | _ => injection h

/-- what the class itself holds -/
noncomputable def ClsVal (c : Cx) (n x : Str) (v : S) : Prop := ∃ mc mv, c.mg n = some (.ref c.C) ∧ readsIn c.K c.C mc = true ∧ findCls c.K (.ref c.C) mc x = some (.val mv) ∧ handedIn mv = true ∧ sca mv = some v
theorem sat_clsattr (ok : c.Ok) {n x : Str} {np pos : Pos} {v : S} (hk : sc.lookup n = some .globalImplicit) (hd : okName n = true) (hv : ClsVal c n x v) : Sat c d sc ρ (.Attribute (.Name n np) x pos) (.sc v) := fun A env s hid Q E at_ h => by
  obtain ⟨mc, mv, h1, h2, h3, h4, h5⟩ := hv
  exact Attribute_name (global_ok ok at_ hk h1 hd (cls_value (ok.KIn.keeps at_.ec.top) h2 h3 h4 (h _ _ (keeps_tok _ _) h5)))

noncomputable def isMeth (x : Str) : Bool := x == "less" || x == "indent_level" || x == "longest_run_of_spaces"
theorem shadow_ok {C : Addr} {W : View} {x : WS} {a d : Addr} {o : Obj} {q : Value} {t1 t2 t3 : Tok} (r : RelWSd C W x a d o q t1 t2 t3) {m : Str} (h : isMeth m = true) : lookIn m o = some none := by
  unfold isMeth at h
  rcases Bool.or_eq_true_iff.mp h with h | h
  · rcases Bool.or_eq_true_iff.mp h with h | h
    · rw [beq_iff_eq.mp h]; exact r.less
    · rw [beq_iff_eq.mp h]; exact r.il
  · rw [beq_iff_eq.mp h]; exact r.lr
theorem sat_meth (ok : c.Ok) {F M : Fn} (fs : FSound c d F M) {o : Expr} {name : Str} {apos pos : Pos} {es : List Expr} {w : WS} {vs : List V} {v : V} (hb : plainBase o = true) (hlen : es.length < 29) (hline : (apos.endLine == pos.line) = true)
    (hm : isMeth name = true) (hx : Sat c d sc ρ o (.ws w)) (ha : SatL c d sc ρ es vs) (hv : M name (.ws w :: vs) = some v) : Sat c d sc ρ (.Call (.Attribute o name apos) es [] pos) v := fun A env s hid Q E at_ h => by
  obtain ⟨f, hf, hc⟩ := fs.meth name (.ws w :: vs) v hv
  obtain ⟨h1, h2, h3⟩ := ok.maOk name f hf
  refine call_meth hb (ha.plain env pos) hlen hline (hx A env s hid _ _ at_ fun mv s₁ k₁ r₁ pl => ?_)
  have r₁' := r₁
  obtain ⟨a, dx, ob, q, t1, t2, t3, rfl, r⟩ := r₁
  have pg := plainGet_of ok.cls.1
  refine method_fn (ok.KIn.keeps (at_.keeps k₁).ec.top) (instAt r.at_.1 r.dict.1) pg.1 pg.2 h1 (beq_iff_eq.mp h2) (by show (lookIn name ob).map (fun x => x.isSome) = some false; rw [shadow_ok r hm]; rfl) ?_
  exact callWith_ok (f := .ref f) (first := [.ref a]) ok (.inl h3) ha (at_.keeps k₁) fun ms s₂ k₂ r₂ =>
    hc A s₂ hid (.ref a :: ms) Q E at_.R ((at_.keeps k₁).keeps k₂).ec.top ((at_.keeps k₁).keeps k₂).ho (.cons (RelV.keeps (v := .ws w) r₁' k₂) r₂) (h.after (keeps_trans k₁ k₂))
end


/-! what is walked over -/
noncomputable def Held (x : S) (m : Value) : Prop := sca m = some x
/-- a list of scalars, or a text's signs -/
noncomputable def itemsV (v : V) : Option (List S) := (v.asL.bind fun l => if small l = true then some l else none).or (v.asS.bind fun x => if x.length ≤ 9999 then some (chars x) else none)
@[reducible] noncomputable def But (wr : List Addr) (h h' : Heap) : Prop := ∀ b o, b ∉ wr → h.get? b = some o → h'.get? b = some o
@[reducible] noncomputable def ItemAt (items : List S) (i : Nat) (m : Value) : Prop := ∃ x, items[i]? = some x ∧ sca m = some x

theorem walks_mono {prog : Program} {w : World} {A : Around} {I : Addr} {fp wr : List Addr} {n : Nat} {P P' : Nat → Value → Prop} {St : Nat → Heap → Prop} (W : Walks prog w A I fp wr n P St) (h : ∀ i v, i < n → P i v → P' i v) : Walks prog w A I fp wr n P' St :=
  ⟨W.sub, W.frame, fun i s Q E hi st hQ => W.item i s Q E hi st fun v h' tk p => hQ v h' tk (h i v hi p), W.done, W.self⟩

theorem chars_get {x : Str} {i k : Nat} (h : x.cps[i]? = some k) : (chars x)[i]? = some (.str ⟨#[k]⟩) := by
  unfold chars; rw [List.getElem?_map, Array.getElem?_toList, h]; rfl
theorem chars_length (x : Str) : (chars x).length = x.length := by unfold chars; rw [List.length_map, Array.length_toList]; rfl

/-- what a walk stands on is there -/
@[reducible] noncomputable def Live (fp : List Addr) (St : Nat → Heap → Prop) : Prop := ∀ i h, St i h → ∀ b ∈ fp, ∃ o, h.get? b = some o
theorem itemsV_len {v : V} {items : List S} (hv : itemsV v = some items) : items.length ≤ 9999 := by
  refine orK hv (fun hv => ?_) fun hv => ?_
  · refine bindK hv fun l hl h1 => ?_
    refine iteK h1 fun hc h2 => ?_
    injection h2 with h2
    exact h2 ▸ of_decide_eq_true hc
  · refine bindK hv fun x hx h1 => ?_
    refine iteK h1 fun hc h2 => ?_
    injection h2 with h2
    rw [← h2, chars_length]
    exact hc

section
variable {prog : Program} {w : World} {C : Addr} {A : Around} {s : Shared} {hid : List Addr} {E : Value → Shared → Prop} {Q : Value → Shared → Prop}
theorem iter_walks {v : V} {m : Value} {items : List S} (hv : itemsV v = some items) (r : RelV C (vw s.heap hid) v m) (hh : A.handled = none)
    (h : ∀ I o fp St, I = s.heap.objs.size → Walks prog w A I fp [I] items.length (ItemAt items) St → Live fp St → St 0 (s.heap.push o) → (∀ b ∈ fp, b = I ∨ (b ∉ hid ∧ b < s.heap.objs.size)) →
      (∀ target i (s' : Shared) m Q' E', (∃ x px, target = .Name x px) ∨ v.asS = none → St i s'.heap → Q' () s' → wpAny (model prog w) A (letOwnedTupleGo target (.ref I) m) Q' E' s') → Q (.ref I) { s with heap := s.heap.push o }) :
    wpAny (model prog w) A (pyIter m) Q E s := by
  refine orK hv (fun hv => ?_) fun hv => ?_
  · refine bindK hv fun l hl h1 => ?_
    refine iteK h1 fun hc h2 => ?_
    injection h2 with h2
    cases asL_eq hl
    obtain ⟨pa, va, na, rfl, wa, la⟩ := r
    have hlt := Heap.lt_size wa.1
    have hs : va.toArray.size = items.length := ((List.size_toArray ..).trans la.length).trans (congrArg _ h2)
    rw [h2] at la
    have W := walks_mono (P' := ItemAt items) (Walks.list (prog := prog) (w := w) hh s.heap.objs.size pa (Nat.ne_of_lt hlt) va.toArray) fun i m _ e => by
      have e' : va[i]? = some m := (List.getElem?_toArray ..).symm.trans e
      have e2 := congrArg (·[i]?) la
      simp only [List.getElem?_map, e', Option.map_some] at e2
      refine mapK e2.symm fun x h3 h4 => ?_
      exact ⟨x, h3, h4.symm⟩
    rw [hs] at W
    refine wpAny_pyIter_list (IsL.isList wa.1) (h _ _ _ _ rfl W (fun i h st b m => (List.mem_cons.mp m).elim (fun e => st.1.elim fun o r => ⟨o, e ▸ r.1⟩) fun m => st.2.elim fun o r => ⟨o, List.mem_singleton.mp m ▸ r.1⟩) ⟨⟨_, Heap.get?_push_size _ rfl, rfl, rfl⟩, (IsL.push wa.1 _).isList⟩ (fun b hb => ?_)
      fun target i s' m Q' E' _ st hq => letGo_listiter st.1 hq)
    rcases List.mem_cons.mp hb with rfl | hb
    · exact .inl rfl
    · rw [List.mem_singleton.mp hb]; exact .inr ⟨wa.2, hlt⟩
  · refine bindK hv fun x hx h1 => ?_
    refine iteK h1 fun hc h2 => ?_
    injection h2 with h2
    cases asS_eq hx
    obtain ⟨t, rfl⟩ := sca_str r
    have hs : x.cps.size = items.length := h2 ▸ (chars_length x).symm
    have fin : ∀ cls, (∀ A' : Around, A'.handled = none → Walks prog w A' s.heap.objs.size [s.heap.objs.size] [s.heap.objs.size] x.cps.size (SignAt x) (fun i h => h.IsStrIter s.heap.objs.size cls x t i)) →
        Q (.ref s.heap.objs.size) { s with heap := s.heap.push { cls := .type cls, data := .fields #[.str x t, .int 0 0] } } := fun cls W => by
      have W := walks_mono (P' := ItemAt items) (W A hh) fun i m _ e => by
        obtain ⟨c, u, e1, rfl⟩ := e
        exact ⟨_, h2 ▸ chars_get e1, rfl⟩
      rw [hs] at W
      exact h _ _ _ _ rfl W (fun i h st b m => st.elim fun o r => ⟨o, List.mem_singleton.mp m ▸ r.1⟩) ⟨_, Heap.get?_push_size _ rfl, rfl, rfl⟩ (fun b hb => .inl (List.mem_singleton.mp hb)) fun target i s' m Q' E' k _ hq =>
        k.elim (fun ⟨y, py, e⟩ => e ▸ wpAny_pure hq) fun k => nomatch k
    cases ha : x.cps.all (· < 128)
    · exact wpAny_pyIter_wide ha (fin _ fun A' hA => Walks.strWide hA _ x t)
    · exact wpAny_pyIter_ascii ha (fin _ fun A' hA => Walks.strAscii hA _ x t)
end

/-- one turn of a loop after the other -/
structure Loops (c : Cx) (A : Around) (target : Expr) (I : Addr) (fp wr : List Addr) (items : List V) (St : Nat → Heap → Prop) : Prop where
  sub : ∀ b ∈ wr, b ∈ fp
  frame : ∀ i h h', St i h → (∀ b ∈ fp, ∀ o, h.get? b = some o → h'.get? b = some o) → St i h'
  turn : ∀ i x (s : Shared) (hid : List Addr) (R : Option Value → Shared → Prop) (E : Value → Shared → Prop), items[i]? = some x → St i s.heap → HidOk hid s.heap →
    (∀ v s₁, (∀ (Q : Unit → Shared → Prop) (E' : Value → Shared → Prop), (∀ h' tk, RelV c.C (vw h' hid) x v → St (i + 1) h' → But wr s.heap h' → Q () { s with heap := h', toks := tk }) →
      wpAny (model c.prog c.w) A (letOwnedTupleGo target (.ref I) v) Q E' s₁) → R (some v) s₁) → wpAny (model c.prog c.w) A (pyNext (.ref I)) R E s
  live : Live fp St
  done : ∀ (s : Shared) (Q : Option Value → Shared → Prop) (E : Value → Shared → Prop), St items.length s.heap → (∀ h' tk, But wr s.heap h' → Q none { s with heap := h', toks := tk }) → wpAny (model c.prog c.w) A (pyNext (.ref I)) Q E s

theorem Loops.ofWalks {c : Cx} {A : Around} {target : Expr} {I : Addr} {fp wr : List Addr} {items : List S} {St : Nat → Heap → Prop} (W : Walks c.prog c.w A I fp wr items.length (ItemAt items) St)
    (lv : Live fp St) (go : ∀ i (s' : Shared) m Q' E', St i s'.heap → Q' () s' → wpAny (model c.prog c.w) A (letOwnedTupleGo target (.ref I) m) Q' E' s') : Loops c A target I fp wr (items.map .sc) St where
  sub := W.sub
  frame := W.frame
  turn := fun i x s hid R E hx st _ h => by
    rw [List.getElem?_map] at hx
    refine mapK hx fun y h1 h2 => ?_
    refine W.item i s _ E (List.getElem?_eq_some_iff.mp h1).1 st fun v h' tk hv st' k => h v _ fun Q E' q => go _ _ _ _ _ st' (q h' tk ?_ st' k)
    obtain ⟨z, h3, h4⟩ := hv
    rw [h1] at h3
    injection h3 with h3
    rw [← h2, h3]
    exact h4
  live := lv
  done := fun s Q E st h => W.done s Q E (by rw [List.length_map] at st; exact st) h

noncomputable def enumV : Nat → List S → List V
  | _, [] => []
  | i, x :: l => .tup [.int i, x] :: enumV (i + 1) l
theorem enumV_get {l : List S} : ∀ {n i : Nat} {x : V}, (enumV n l)[i]? = some x → ∃ y, l[i]? = some y ∧ x = .tup [.int (n + i : Nat), y] := by
  induction l with
  | nil => intro n i x h; injection h
  | cons y l ih =>
    intro n i x h
    cases i with
    | zero => injection h with h; exact ⟨y, rfl, h.symm⟩
    | succ i => obtain ⟨z, h1, h2⟩ := ih (n := n + 1) h; exact ⟨z, h1, by rw [h2, Nat.add_right_comm, Nat.add_assoc]⟩
theorem enumV_length (l : List S) : ∀ n, (enumV n l).length = l.length := by
  induction l with
  | nil => intro n; rfl
  | cons y l ih => intro n; exact congrArg (· + 1) (ih (n + 1))

theorem Loops.enum {c : Cx} {A : Around} {es : List Expr} {k : Nat} {pos : Pos} {it e : Addr} {fp : List Addr} {x : Str} {St : Nat → Heap → Prop} (D : Draws c.prog c.w A.in1 it fp x.cps.size (fun i v => ∃ k u, x.cps[i]? = some k ∧ v = .str ⟨#[k]⟩ u) St)
    (lv : Live fp St) (hei : e ≠ it) (hef : e ∉ fp) (hif : it ∈ fp) : Loops c A (.Tuple es k pos) e (e :: fp) [e, it] (enumV 0 (chars x)) (fun i h => (∃ old, IsEnum h e it i old) ∧ St i h) := by
  have W := WalksT.enumerateD D e hei hef hif
  refine ⟨W.sub, W.frame, fun i y s hid Q E hx st ho h => ?_, fun i h st b m => (List.mem_cons.mp m).elim (fun e => st.1.elim fun _ r => ⟨_, e ▸ r⟩) fun m => lv i h st.2 b m, fun s Q E st h => W.done s Q E (by rw [enumV_length, chars_length] at st; exact st) h⟩
  obtain ⟨z, h1, rfl⟩ := enumV_get hx
  have hi : i < x.cps.size := Nat.lt_of_lt_of_eq (List.getElem?_eq_some_iff.mp h1).1 (chars_length x)
  obtain ⟨⟨old, he⟩, hs⟩ := st
  refine wpAny_pyNext_enum_itemD D he hs hi hei hef fun v h' tk hP ho' hs' hT hsz kp => h _ _ fun Q E' q' => wpAny_letOwnedTupleGo_enum ho' fun h'' he' sb => q' _ _ ?_ ⟨⟨v, by simpa using he'⟩, D.frame _ _ _ hs' fun b hb o y => (sb.2 b fun q => hef (q ▸ hb)).trans y⟩ fun b o nb hb => ?_
  · obtain ⟨k, u, e1, rfl⟩ := hP
    rw [chars_get e1] at h1
    injection h1 with h1
    rw [← h1, Nat.zero_add]
    have hTe : s.heap.objs.size ≠ e := Nat.ne_of_gt (Heap.lt_size he)
    exact ⟨_, [.int i tk, .str ⟨#[k]⟩ u], 0, rfl, ⟨(sb.2 _ hTe).trans hT, ho.new (Nat.le_refl _)⟩, rfl⟩
  · have n1 : b ≠ e := fun q => nb (q ▸ List.mem_cons_self ..)
    have n2 : b ≠ it := fun q => nb (q ▸ List.mem_cons_of_mem _ (List.mem_singleton.mpr rfl))
    exact (sb.2 b n1).trans (kp b o n1 n2 hb)

/-- an expression yields what a loop walks over -/
noncomputable def SatI (c : Cx) (d : Nat) (sc : Sc) (ρ : Rho) (target e : Expr) (items : List V) : Prop :=
  ∀ (A : Around) (env : Env) (s : Shared) (hid : List Addr) (Q : Value → Shared → Prop) (E : Value → Shared → Prop), At c d sc ρ A env hid s.heap →
    (∀ I fp wr St s', Keeps s s' → Loops c A target I fp wr items St → St 0 s'.heap → (∀ b ∈ fp, b ∉ hid ∧ b < s'.heap.objs.size) → (∀ b ∈ wr, s.heap.get? b = none) → Q (.ref I) s') →
    wpAny (model c.prog c.w) A (eval e env) (fun x s₁ => wpAny (model c.prog c.w) A (pyIter x) Q E s₁) E s
theorem none_of {s s' : Shared} (k : Keeps s s') {b : Addr} (h : s'.heap.objs.size ≤ b) : s.heap.get? b = none := by
  cases e : s.heap.get? b with
  | none => rfl
  | some o => exact absurd (Heap.lt_size (grow k _ _ e)) (Nat.not_lt.mpr h)
section
variable {c : Cx} {d : Nat} {sc : Sc} {ρ : Rho}
theorem satI_val {target e : Expr} {v : V} {items : List S} (ht : (∃ x px, target = .Name x px) ∨ v.asS = none) (he : Sat c d sc ρ e v) (hv : itemsV v = some items) : SatI c d sc ρ target e (items.map .sc) := fun A env s hid Q E at_ h =>
  he A env s hid _ _ at_ fun m s₁ k₁ r₁ => iter_walks hv r₁ at_.R.hh fun I o fp St hI W lv st hf go => by
    have g := push_grows s₁.heap o
    refine h I fp [I] St _ (keeps_trans k₁ (keeps_heap s₁.toks g)) (.ofWalks W lv fun i s' m Q' E' a b => go target i s' m Q' E' ht a b) st (fun b hb => ?_) fun b hb => none_of k₁ (by rw [List.mem_singleton.mp hb, hI]; exact Nat.le_refl _)
    rw [Heap.size_push]
    rcases hf b hb with e1 | ⟨h1, h2⟩
    · rw [e1, hI]; exact ⟨(at_.keeps k₁).ho.new (Nat.le_refl _), Nat.lt_succ_self _⟩
    · exact ⟨h1, Nat.lt_succ_of_lt h2⟩

noncomputable def rangeV (a b : Int) : List S := (List.range (b - a).toNat).map fun (i : Nat) => .int (a + (i : Int))
theorem satI_range (ok : c.Ok) {x : Str} {np pos px : Pos} {es : List Expr} {f : Str} {a b : Int} (hk : sc.lookup f = some .globalImplicit) (hd : okName f = true) (hf : f = "range") (ha : SatL c d sc ρ es [.i a, .i b]) (hab : -(2 ^ 62) ≤ a ∧ a < 2 ^ 62 ∧ -(2 ^ 62) ≤ b ∧ b < 2 ^ 62) :
    SatI c d sc ρ (.Name x px) (.Call (.Name f np) es [] pos) ((rangeV a b).map .sc) := fun A env s hid Q E at_ h => by
  rw [eval_Call_name]
  refine wpAny_bind (builtin_ok ok at_ hk hd (hf ▸ boot_range) (hf ▸ by decide) (.inr (.inr (.inr (.inr (.inl hf))))) (callWith_ok (f := .type "range") (first := []) ok (.inr fun a e => nomatch e) ha at_ fun ms s₂ k₂ r₂ => ?_))
  obtain ⟨m, m', rfl, r1, r2⟩ := both2 r₂
  obtain ⟨t, rfl⟩ := sca_int r1
  obtain ⟨u, rfl⟩ := sca_int r2
  refine call_range_2 (wpAny_pyIter_range (IsRange.new ..) (small_one hab.1 hab.2.1 hab.2.2.1 hab.2.2.2) ?_)
  have hsz : Builtin.Range.rangeSize a b 1 = ((b - a).toNat : Int) := by rw [rangeSize_one]; split <;> omega
  have hl : (rangeV a b).length = (b - a).toNat := by unfold rangeV; rw [List.length_map, List.length_range]
  have W := walks_mono (P' := ItemAt (rangeV a b)) (Walks.range (prog := c.prog) (w := c.w) at_.R.hh (s₂.heap.objs.size + 1) a 1 (b - a).toNat) fun i v hi p => by
    obtain ⟨t, rfl⟩ := p
    refine ⟨.int (a + i), ?_, by rw [Int.mul_one]; rfl⟩
    unfold rangeV
    rw [List.getElem?_map, List.getElem?_range hi]; rfl
  rw [← hl] at W
  have g1 := push_grows s₂.heap { cls := .type "range", data := .fields #[.int a t, .int b u, .int 1 s₂.toks] }
  have g2 := push_grows (s₂.heap.push { cls := .type "range", data := .fields #[.int a t, .int b u, .int 1 s₂.toks] }) { cls := .type "range_iterator", data := .fields #[rawInt a, rawInt (Builtin.Range.rangeSize a b 1), rawInt 1] }
  have ho := (at_.keeps k₂).ho
  have hI : (s₂.heap.push { cls := .type "range", data := .fields #[.int a t, .int b u, .int 1 s₂.toks] }).objs.size = s₂.heap.objs.size + 1 := Heap.size_push ..
  refine h _ _ _ _ _ (keeps_trans k₂ (keeps_heap (s₂.toks + 1) (g1.trans g2))) (.ofWalks (hI ▸ W) (fun i h st b m => ⟨_, List.mem_singleton.mp m ▸ st⟩) fun i s' m Q' E' a b => wpAny_pure b) ?_ (fun b hb => ?_) fun b hb => none_of k₂ (by rw [List.mem_singleton.mp hb, hI]; exact Nat.le_succ _)
  · show IsRangeIter _ _ (a + ((0 : Nat) : Int) * 1) (((rangeV a b).length : Int) - ((0 : Nat) : Int)) 1
    rw [hl, show a + ((0 : Nat) : Int) * 1 = a by simp, show (((b - a).toNat : Int) - ((0 : Nat) : Int)) = Builtin.Range.rangeSize a b 1 by rw [hsz]; simp]
    exact Heap.get?_push_size _ rfl
  · rw [List.mem_singleton.mp hb, hI]
    exact ⟨ho.new (Nat.le_succ _), by rw [Heap.size_push, hI]; exact Nat.lt_succ_self _⟩

theorem satI_enum (ok : c.Ok) {es : List Expr} {k : Nat} {np pos px : Pos} {as : List Expr} {f : Str} {x : Str} (hk : sc.lookup f = some .globalImplicit) (hd : okName f = true) (hf : f = "enumerate") (ha : SatL c d sc ρ as [.s x]) :
    SatI c d sc ρ (.Tuple es k px) (.Call (.Name f np) as [] pos) (enumV 0 (chars x)) := fun A env s hid Q E at_ h => by
  rw [eval_Call_name]
  refine wpAny_bind (builtin_ok ok at_ hk hd (hf ▸ boot_enumerate) (hf ▸ by decide) (.inr (.inr (.inr (.inr (.inr hf))))) (callWith_ok (f := .type "enumerate") (first := []) ok (.inr fun a e => nomatch e) ha at_ fun ms s₂ k₂ r₂ => ?_))
  obtain ⟨m, rfl, r1⟩ := both1 r₂
  obtain ⟨t, rfl⟩ := sca_str r1
  have ho := (at_.keeps k₂).ho
  refine call_enumerate_str fun h' he hit hsz hk' => wpAny_pyIter_enum he ?_
  have fin : ∀ St, Draws c.prog c.w A.in1 s₂.heap.objs.size [s₂.heap.objs.size] x.cps.size (fun i v => ∃ k u, x.cps[i]? = some k ∧ v = .str ⟨#[k]⟩ u) St → St 0 h' → Q (.ref (s₂.heap.objs.size + 1)) { s₂ with heap := h' } := fun St D st => by
    refine h _ _ _ _ _ (keeps_trans k₂ (keeps_heap s₂.toks hk')) (Loops.enum D (fun i h st b m => List.mem_singleton.mp m ▸ D.live i h st) (Nat.succ_ne_self _) (fun q => Nat.succ_ne_self _ (List.mem_singleton.mp q)) (List.mem_singleton.mpr rfl)) ⟨⟨_, he⟩, st⟩ (fun b hb => ?_) fun b hb => none_of k₂ ?_
    · show b ∉ hid ∧ b < h'.objs.size
      rw [hsz]
      rcases List.mem_cons.mp hb with rfl | hb
      · exact ⟨ho.new (Nat.le_succ _), Nat.lt_succ_self _⟩
      · rw [List.mem_singleton.mp hb]; exact ⟨ho.new (Nat.le_refl _), Nat.lt_add_of_pos_right (by decide)⟩
    · rcases List.mem_cons.mp hb with rfl | hb
      · exact Nat.le_succ _
      · rw [List.mem_singleton.mp hb]; exact Nat.le_refl _
  cases ha' : x.cps.all (· < 128)
  · exact fin _ (Draws.strWide (A := A.in1) at_.R.hh s₂.heap.objs.size x t) (by simpa [strIterType, ha'] using hit)
  · exact fin _ (Draws.strAscii (A := A.in1) at_.R.hh s₂.heap.objs.size x t) (by simpa [strIterType, ha'] using hit)
end


/-! list comprehensions -/
theorem closure_ok {env : Env} : ∀ (names : List (Str × NameKind)) (cs : List (Str × Addr)), (∀ y, (y, NameKind.free) ∈ names → ∃ a, env.cells.lookup y = some a) → (∀ p ∈ cs, env.cells.lookup p.1 = some p.2) →
    ∃ cl, (forIn names cs fun (p : Str × NameKind) (r : List (Str × Addr)) => if (p.2 == NameKind.free) = true then (do let a ← cellOf env p.1; pure (ForInStep.yield ((p.1, a) :: r)) : Sem _) else pure (ForInStep.yield r)) = pure cl ∧
      (∀ p ∈ cl, env.cells.lookup p.1 = some p.2) ∧ (∀ p ∈ cs, p ∈ cl) ∧ ∀ y, (y, NameKind.free) ∈ names → ∃ a, (y, a) ∈ cl := by
  intro names
  induction names with
  | nil => intro cs _ h; exact ⟨cs, rfl, h, fun _ m => m, fun _ m => nomatch m⟩
  | cons p names ih =>
    intro cs h1 h2
    obtain ⟨n, k⟩ := p
    rw [List.forIn_cons]
    by_cases hk : (k == NameKind.free) = true
    · cases beq_iff_eq.mp hk
      obtain ⟨a, ha⟩ := h1 n (List.mem_cons_self ..)
      obtain ⟨cl, e, q1, q2, q3⟩ := ih ((n, a) :: cs) (fun y m => h1 y (List.mem_cons_of_mem _ m)) fun q m => by
        rcases List.mem_cons.mp m with rfl | m
        · exact ha
        · exact h2 q m
      refine ⟨cl, ?_, q1, fun q m => q2 q (List.mem_cons_of_mem _ m), fun y m => ?_⟩
      · rw [if_pos hk]
        have : cellOf env n = pure a := by unfold cellOf; rw [ha]
        rw [this, pure_bind, pure_bind]
        exact e
      · rcases List.mem_cons.mp m with m | m
        · injection m with m; rw [m]; exact ⟨a, q2 _ (List.mem_cons_self ..)⟩
        · exact q3 y m
    · obtain ⟨cl, e, q1, q2, q3⟩ := ih cs (fun y m => h1 y (List.mem_cons_of_mem _ m)) h2
      refine ⟨cl, ?_, q1, q2, fun y m => ?_⟩
      · rw [if_neg hk, pure_bind]; exact e
      · rcases List.mem_cons.mp m with m | m
        · injection m with _ m; rw [← m] at hk; exact absurd rfl hk
        · exact q3 y m
theorem lookup_all {cl : List (Str × Addr)} {y : Str} {a : Addr} (h : (y, a) ∈ cl) (hs : ∀ p ∈ cl, p.1 = y → p.2 = a) : cl.lookup y = some a := by
  induction cl with
  | nil => exact nomatch h
  | cons p cl ih =>
    obtain ⟨n, b⟩ := p
    rw [List.lookup_cons]
    by_cases e : y = n
    · rw [beq_iff_eq.mpr e]; exact congrArg some (hs (n, b) (List.mem_cons_self ..) e.symm)
    · rw [beq_eq_false_iff_ne.mpr e]
      rcases List.mem_cons.mp h with m | m
      · injection m with m; exact absurd m e
      · exact ih m fun q mq => hs q (List.mem_cons_of_mem _ mq)
theorem closureFor_ok {env : Env} {scope : Scope} (h : ∀ y, (y, NameKind.free) ∈ scope.names → ∃ a, env.cells.lookup y = some a) : ∃ cl, closureFor scope env = pure cl ∧ ∀ y, (y, NameKind.free) ∈ scope.names → cl.lookup y = env.cells.lookup y := by
  obtain ⟨cl, e, q1, _, q3⟩ := closure_ok scope.names [] h fun _ m => nomatch m
  refine ⟨cl, ?_, fun y m => ?_⟩
  · unfold closureFor
    rw [← bind_pure (pure cl), ← e]
  · obtain ⟨a, ha⟩ := q3 y m
    rw [q1 _ ha]
    exact lookup_all ha fun p mp e => by
      have := q1 p mp
      rw [e, q1 _ ha] at this
      injection this with this
      exact this.symm

noncomputable def isCF (sc : Sc) (y : Str) : Bool := match sc.lookup y with
  | some .cell | some .free => true
  | _ => false
theorem isCF_of {sc : Sc} {y : Str} (h : isCF sc y = true) : sc.lookup y = some .cell ∨ sc.lookup y = some .free := by
  unfold isCF at h
  cases e : sc.lookup y with
  | none => rw [e] at h; injection h
  | some k => rw [e] at h; cases k <;> first | exact .inl rfl | exact .inr rfl | (injection h; done)
noncomputable def innerSc (sc names : Sc) : Sc := names.map fun p => if (p.2 == NameKind.free && sc.lookup p.1 == some .cell) = true then (p.1, NameKind.cell) else p
noncomputable def compOk (sc names : Sc) (x : Str) : Bool := names.all (fun p => !(p.2 == NameKind.cell) && (!(p.2 == NameKind.free) || isCF sc p.1) && (!(p.2 == NameKind.local) || names.lookup p.1 == some .local)) && names.lookup x == some .local
noncomputable def innerRho (sc : Sc) (ρ : Rho) (x : Str) (v : S) : Rho := (x, .sc v) :: ρ.filter fun p => isCF sc p.1
theorem lookup_filter {α : Type} {f : Str → Bool} {y : Str} {v : α} {ρ : List (Str × α)} (h : (ρ.filter fun p => f p.1).lookup y = some v) : f y = true ∧ ρ.lookup y = some v := by
  induction ρ with
  | nil => injection h
  | cons p ρ ih =>
    obtain ⟨n, b⟩ := p
    rw [List.filter_cons] at h
    by_cases hf : f n = true
    · rw [if_pos hf, List.lookup_cons] at h
      rw [List.lookup_cons]
      by_cases e : y = n
      · rw [beq_iff_eq.mpr e] at h ⊢; exact ⟨by rw [e]; exact hf, h⟩
      · rw [beq_eq_false_iff_ne.mpr e] at h ⊢; exact ih h
    · rw [if_neg hf] at h
      obtain ⟨h1, h2⟩ := ih h
      refine ⟨h1, ?_⟩
      rw [List.lookup_cons, beq_eq_false_iff_ne.mpr (show y ≠ n from fun e => hf (by rw [← e]; exact h1))]
      exact h2
theorem relabel_names {c : Cx} {env : Env} {sc : Sc} {h : Heap} (ec : EC c env sc h) (scope : Scope) : (relabel scope env).names = innerSc sc scope.names := by
  unfold relabel innerSc
  refine List.map_congr_left fun p _ => ?_
  obtain ⟨n, k⟩ := p
  have e1 : (env.scope.kind == ScopeKind.function) = true := by rw [ec.kind]; rfl
  show (if (k == NameKind.free && env.scope.kind == ScopeKind.function && env.kindOf n == some .cell) = true then (n, NameKind.cell) else (n, k)) = _
  rw [e1, ec.kindOf, Bool.and_true]
theorem inner_free {sc names : Sc} {y : Str} (h : isCF (innerSc sc names) y = true) (hn : ∀ p ∈ names, p.2 ≠ NameKind.cell) : (y, NameKind.free) ∈ names := by
  have h := isCF_of h
  unfold innerSc at h
  have key : ∀ l : Sc, (∀ p ∈ l, p.2 ≠ NameKind.cell) → ∀ k, (l.map fun p => if (p.2 == NameKind.free && sc.lookup p.1 == some .cell) = true then (p.1, NameKind.cell) else p).lookup y = some k → k = .cell ∨ k = .free → (y, NameKind.free) ∈ l := by
    intro l
    induction l with
    | nil => intro _ k h; injection h
    | cons p l ih =>
      intro hl k h hk
      obtain ⟨n, q⟩ := p
      rw [List.map_cons] at h
      by_cases e : y = n
      · by_cases hc : (q == NameKind.free && sc.lookup n == some .cell) = true
        · have := beq_iff_eq.mp (Bool.and_eq_true_iff.mp hc).1
          subst this e
          exact List.mem_cons_self ..
        · rw [if_neg hc, List.lookup_cons, beq_iff_eq.mpr e] at h
          injection h with h
          rcases hk with hk | hk
          · exact absurd (h.trans hk) (hl (n, q) (List.mem_cons_self ..))
          · have := h.trans hk
            subst this e
            exact List.mem_cons_self ..
      · have e' := beq_eq_false_iff_ne.mpr e
        have h' : (l.map fun p => if (p.2 == NameKind.free && sc.lookup p.1 == some .cell) = true then (p.1, NameKind.cell) else p).lookup y = some k := by
          by_cases hc : (q == NameKind.free && sc.lookup n == some .cell) = true
          · rw [if_pos hc, List.lookup_cons, e'] at h; exact h
          · rw [if_neg hc, List.lookup_cons, e'] at h; exact h
        exact List.mem_cons_of_mem _ (ih (fun q m => hl q (List.mem_cons_of_mem _ m)) k h' hk)
  rcases h with h | h
  · exact key names hn _ h (.inl rfl)
  · exact key names hn _ h (.inr rfl)

noncomputable def SatF (c : Cx) (d : Nat) (sc : Sc) (ρ : Rho) (ifs : List Expr) (b : Bool) : Prop := (ifs = [] ∧ b = true) ∨ ∃ t, ifs = [t] ∧ SatT c d sc ρ t b
noncomputable def pOf (pS : S → Bool) (m : Value) : Bool := ((sca m).map pS).getD false
theorem pOf_eq {pS : S → Bool} {m x} (h : sca m = some x) : pOf pS m = pS x := by unfold pOf; rw [h]; rfl
theorem comp_rel {pS : S → Bool} {fS : S → S} : ∀ {items : List S} {vs ys : List Value}, RelL items vs → Paired (fun m y => ∃ x, sca m = some x ∧ sca y = some (fS x)) (vs.filter (pOf pS)) ys → RelL ((items.filter pS).map fS) ys := by
  intro items
  induction items with
  | nil =>
    intro vs ys r p
    cases vs with
    | nil => cases p; rfl
    | cons _ _ => injection r
  | cons x items ih =>
    intro vs ys r p
    cases vs with
    | nil => injection r
    | cons m vs =>
      injection r with r1 r2
      rw [List.filter_cons, pOf_eq r1] at p
      rw [List.filter_cons]
      by_cases h : pS x = true
      · rw [if_pos h] at p ⊢
        cases p with | cons q p =>
        obtain ⟨z, h1, h2⟩ := q
        rw [r1] at h1
        injection h1 with h1
        unfold RelL
        rw [List.map_cons, List.map_cons, List.map_cons, ih r2 p, h2, h1]
      · rw [if_neg h] at p ⊢
        exact ih r2 p
theorem items_rel {items : List S} {vs : List Value} (hl : vs.length = items.length) (h : ∀ j v, vs[j]? = some v → ItemAt items j v) : RelL items vs := by
  refine List.ext_getElem? fun j => ?_
  rw [List.getElem?_map, List.getElem?_map]
  cases e : vs[j]? with
  | none => rw [List.getElem?_eq_none (hl ▸ List.getElem?_eq_none_iff.mp e)]; rfl
  | some v => obtain ⟨x, h1, h2⟩ := h j v e; rw [h1]; exact congrArg some h2

section
variable {c : Cx} {d : Nat} {sc : Sc} {ρ : Rho}
/-- what the comprehension's own block stands on -/
theorem inner_at {A : Around} {env : Env} {hid : List Addr} {h h' : Heap} {scope : Scope} {cl : List (Str × Addr)} {x : Str} {C : Addr} {m : Str → Option Value} {mv : Value} {v : S} (at_ : At c d sc ρ A env hid h) (g : Grows h h') (hk : scope.kind = .function)
    (hc : compOk sc scope.names x = true) (hcl : ∀ y, (y, NameKind.free) ∈ scope.names → cl.lookup y = env.cells.lookup y) (hn : h'.Ns C m) (hm : m x = some mv) (hv : sca mv = some v) :
    At c d (innerSc sc scope.names) (innerRho (innerSc sc scope.names) ρ x v) A (compEnvC scope cl C env) hid h' := by
  unfold compOk at hc
  rw [Bool.and_eq_true, List.all_eq_true] at hc
  obtain ⟨hall, hx⟩ := hc
  have a2 := at_.grows g
  have hcell : ∀ p ∈ scope.names, p.2 ≠ NameKind.cell := fun p mp e => by
    have := hall p mp
    rw [e] at this
    injection this
  have hcf : ∀ y, (y, NameKind.free) ∈ scope.names → sc.lookup y = some .cell ∨ sc.lookup y = some .free := fun y my => by
    have := hall _ my
    rw [Bool.and_eq_true, Bool.and_eq_true] at this
    exact isCF_of this.1.2
  have hnm : (compEnvC scope cl C env).scope.names = innerSc sc scope.names := relabel_names at_.ec scope
  have hfr : ∀ y, isCF (innerSc sc scope.names) y = true → (y, NameKind.free) ∈ scope.names := fun y hy => inner_free hy hcell
  refine ⟨at_.R, ⟨hk, hnm, a2.ec.glob, a2.ec.bi, a2.ec.top, fun y hy => ?_⟩, a2.ho, fun y u hu hl => ?_⟩
  · have my := hfr y (by unfold isCF; rcases hy with hy | hy <;> rw [hy])
    obtain ⟨a, ha⟩ := a2.ec.cells y (hcf y my)
    exact ⟨a, (hcl y my).trans ha⟩
  · unfold innerRho at hl
    rw [List.lookup_cons] at hl
    by_cases e : y = x
    · rw [beq_iff_eq.mpr e] at hl
      injection hl with hl
      rw [e, ← hl]
      refine ⟨mv, .inl ⟨?_, m, hn, hm⟩, hv⟩
      have := lookup_relabel_local (env := env) (beq_iff_eq.mp hx)
      exact hnm ▸ this
    · rw [beq_eq_false_iff_ne.mpr e] at hl
      obtain ⟨h1, h2⟩ := lookup_filter hl
      have my := hfr y h1
      have k := hcf y my
      obtain ⟨mu, hold, r⟩ := a2.rd y u (by unfold isVar; rcases k with k | k <;> rw [k]) h2
      refine ⟨mu, .inr ⟨isCF_of h1, ?_⟩, r⟩
      rcases hold with ⟨k', _⟩ | ⟨_, a, ha, hi⟩
      · rw [k'] at k; rcases k with k | k <;> injection k with k <;> injection k
      · exact ⟨a, (hcl y my).trans ha, hi⟩

theorem comp_run {elt iter : Expr} {x : Str} {ifs : List Expr} {scope : Scope} {v : V} {items : List S} {pS : S → Bool} {fS : S → S} (hk : scope.kind = .function) (hc : compOk sc scope.names x = true)
    (hi : Sat c d sc ρ iter v) (hv : itemsV v = some items) (ht : ∀ i ∈ items, SatF c d (innerSc sc scope.names) (innerRho (innerSc sc scope.names) ρ x i) ifs (pS i))
    (he : ∀ i ∈ items, pS i = true → Sat c d (innerSc sc scope.names) (innerRho (innerSc sc scope.names) ρ x i) elt (.sc (fS i)))
    {A : Around} {env : Env} {s : Shared} {hid : List Addr} {E : Value → Shared → Prop} {cl : List (Str × Addr)} (at_ : At c d sc ρ A env hid s.heap) (hcl : ∀ y, (y, NameKind.free) ∈ scope.names → cl.lookup y = env.cells.lookup y)
    {Q : Value → Shared → Prop}
    (h : ∀ I s₂ fp n P St, Keeps s s₂ → I ∉ hid → s.heap.get? I = none → Walks c.prog c.w A I fp [I] n P St → n ≤ sizeLine → St 0 s₂.heap → (∀ b ∈ fp, b < s₂.heap.objs.size) →
      QuietOnC c.prog c.w A env scope cl x ifs elt [I] P (pOf pS) (fun m y => ∃ x, sca m = some x ∧ sca y = some (fS x)) s₂ → (∀ (vs ys : List Value), vs.length = n → (∀ j v, vs[j]? = some v → P j v) → Paired (fun m y => ∃ x, sca m = some x ∧ sca y = some (fS x)) (vs.filter (pOf pS)) ys → RelL ((items.filter pS).map fS) ys) → Q (.ref I) s₂) :
    wpAny (model c.prog c.w) A (eval iter env) (fun xv s₁ => wpAny (model c.prog c.w) A (pyIter xv) Q E s₁) E s :=
  hi A env s hid _ _ at_ fun m s₁ k₁ r₁ => iter_walks hv r₁ at_.R.hh fun I o fp St hI W _ st hf go => by
    have a1 := at_.keeps k₁
    have hb : ∀ {s₃ : Shared}, (∀ b o', b ∉ [I] → (s₁.heap.push o).get? b = some o' → s₃.heap.get? b = some o') → Grows s₁.heap s₃.heap := fun hb b o' e =>
      hb b o' (fun q => by rw [List.mem_singleton.mp q, hI] at e; exact Nat.lt_irrefl _ (Heap.lt_size e)) (Heap.get?_push_of_some _ e)
    refine h I _ fp _ _ St (keeps_trans k₁ (keeps_heap s₁.toks (push_grows _ _))) (hI ▸ a1.ho.new (Nat.le_refl _)) (none_of k₁ (Nat.le_of_eq hI.symm)) W (Nat.le_trans (itemsV_len hv) (by decide)) st (fun b hb => ?_) ⟨fun C i v s₃ m₃ E' hC hp hn hm hb' _ => ?_, fun C i v s₃ m₃ E' hC hp hpv hn hm hb' _ => ?_⟩ fun vs ys hl hj hp => comp_rel (items_rel hl hj) hp
    · show b < (s₁.heap.push o).objs.size
      rw [Heap.size_push]
      rcases hf b hb with e | e
      · rw [e, hI]; exact Nat.lt_succ_self _
      · exact Nat.lt_succ_of_lt e.2
    · obtain ⟨z, h1, h2⟩ := hp
      have ia := inner_at a1 (hb hb') hk hc hcl hn hm h2
      rw [pOf_eq h2]
      rcases ht z (List.mem_of_getElem? h1) with ⟨rfl, e⟩ | ⟨t, rfl, q⟩
      · exact wpAny_pure ⟨e.symm, keeps_refl _⟩
      · rw [List.forIn_cons, if_pos rfl]
        exact wpAny_bind (wpAny_bind (q A _ s₃ hid _ _ ia fun s' k => wpAny_pure (wpAny_pure ⟨rfl, k⟩)))
    · obtain ⟨z, h1, h2⟩ := hp
      have ia := inner_at a1 (hb hb') hk hc hcl hn hm h2
      rw [pOf_eq h2] at hpv
      exact he z (List.mem_of_getElem? h1) hpv A _ s₃ hid _ _ ia fun y s' k r => ⟨⟨z, h2, r⟩, k⟩

theorem compOk_parts {sc names : Sc} {x : Str} (hc : compOk sc names x = true) : (∀ y ∈ names, y.2 ≠ NameKind.cell) ∧ (∀ y ∈ names, y.2 = .local → names.lookup y.1 = some .local) ∧ names.lookup x = some .local ∧ ∀ y, (y, NameKind.free) ∈ names → sc.lookup y = some .cell ∨ sc.lookup y = some .free := by
  unfold compOk at hc
  rw [Bool.and_eq_true, List.all_eq_true] at hc
  obtain ⟨hall, hx⟩ := hc
  refine ⟨fun p mp e => ?_, fun p mp e => ?_, beq_iff_eq.mp hx, fun y my => ?_⟩
  · have := hall p mp
    rw [e] at this
    injection this
  · have := hall p mp
    rw [Bool.and_eq_true, e] at this
    exact beq_iff_eq.mp this.2
  · have := hall _ my
    rw [Bool.and_eq_true, Bool.and_eq_true] at this
    exact isCF_of this.1.2
theorem plain_list {W : View} {C : Addr} {l : List S} {h : Heap} {hid : List Addr} {D : Addr} {ys : Array Value} (hp : h.PlainList D ys) (hD : D ∉ hid) (r : RelL l ys.toList) : RelV C (vw h hid) (.list l) (.ref D) := by
  obtain ⟨n, e⟩ := hp
  exact ⟨D, ys.toList, n, rfl, ⟨by show h.get? D = some { cls := .type "list", data := .seq ys.toList.toArray n }; rw [Array.toArray_toList]; exact e, hD⟩, r⟩

theorem sat_comp {elt iter : Expr} {x : Str} {px : Pos} {ifs : List Expr} {scope : Scope} {pos : Pos} {v : V} {items : List S} {pS : S → Bool} {fS : S → S} (hk : scope.kind = .function) (hc : compOk sc scope.names x = true) (hs : notSet iter = true)
    (hi : Sat c d sc ρ iter v) (hv : itemsV v = some items) (ht : ∀ i ∈ items, SatF c d (innerSc sc scope.names) (innerRho (innerSc sc scope.names) ρ x i) ifs (pS i))
    (he : ∀ i ∈ items, pS i = true → Sat c d (innerSc sc scope.names) (innerRho (innerSc sc scope.names) ρ x i) elt (.sc (fS i))) :
    Sat c d sc ρ (.ListComp elt [⟨.Name x px, iter, ifs, 0⟩] scope pos) (.list ((items.filter pS).map fS)) := fun A env s hid Q E at_ h => by
  obtain ⟨h1, h2, h3, h4⟩ := compOk_parts hc
  obtain ⟨cl, e, hcl⟩ := closureFor_ok (env := env) (scope := scope) fun y my => at_.ec.cells y (h4 y my)
  refine wpAny_ListComp_free (pOf pS) (fun m y => ∃ x, sca m = some x ∧ sca y = some (fS x)) e h1 hk h2 h3 (comp_run hk hc hi hv ht he at_ hcl fun I s₂ fp n P St k₂ hI hn W hsz st hf q fin => ⟨I, fp, [I], n, P, St, rfl, W, hsz, st, hf, q, fun D h' tk ys vs hD hl hp hlen hP hF hk' => ?_⟩) ((kinds _).fold hs env)
  have g : Grows s.heap h' := fun b o eb => hk' b o (fun m => by rw [List.mem_singleton.mp m, hn] at eb; cases eb) (grow k₂ b o eb)
  have hD' : D ∉ hid := fun m => by obtain ⟨o, eo⟩ := at_.ho D m; rw [grow k₂ D o eo] at hD; cases hD
  obtain ⟨h₂, tk₂, e₂, _⟩ := k₂
  subst e₂
  exact h _ _ (keeps_heap tk g) (plain_list (W := vw h' hid) hp hD' (fin vs ys.toList hlen hP hF))

/-- a comprehension that is a name's whole value -/
theorem assign_comp {elt iter : Expr} {x y : Str} {px py : Pos} {ifs : List Expr} {scope : Scope} {pos spos : Pos} {v : V} {items : List S} {pS : S → Bool} {fS : S → S} (hk : scope.kind = .function) (hc : compOk sc scope.names x = true) (hs : notSet iter = true)
    (hi : Sat c d sc ρ iter v) (hv : itemsV v = some items) (ht : ∀ i ∈ items, SatF c d (innerSc sc scope.names) (innerRho (innerSc sc scope.names) ρ x i) ifs (pS i))
    (he : ∀ i ∈ items, pS i = true → Sat c d (innerSc sc scope.names) (innerRho (innerSc sc scope.names) ρ x i) elt (.sc (fS i)))
    (hy : sc.lookup y = some .local) (hl : (py.line == pos.line) = true) (hno : (scope.names.any fun p => p.1 == y && (p.2 == .local || p.2 == .cell)) = false)
    {A : Around} {env : Env} {s : Shared} {hid : List Addr} {Q : Flow → Shared → Prop} {E : Value → Shared → Prop} {m : Str → Option Value} (at_ : At c d sc ρ A env hid s.heap) (hL : env.locals ∈ hid) (hn : s.heap.Ns env.locals m)
    (h : ∀ D h' tk, h'.Ns env.locals (fun z => if z = y then some (.ref D) else m z) → (∀ b o, b ≠ env.locals → s.heap.get? b = some o → h'.get? b = some o) → RelV c.C (vw h' hid) (.list ((items.filter pS).map fS)) (.ref D) → Q .next { s with heap := h', toks := tk }) :
    wpAny (model c.prog c.w) A (exec (.Assign [.Name y py] (.ListComp elt [⟨.Name x px, iter, ifs, 0⟩] scope pos) spos) env) Q E s := by
  obtain ⟨h1, h2, h3, h4⟩ := compOk_parts hc
  obtain ⟨cl, e, hcl⟩ := closureFor_ok (env := env) (scope := scope) fun y my => at_.ec.cells y (h4 y my)
  have hy' := (at_.ec.kindOf y).trans hy
  have hbk : (env.blockKind == ScopeKind.function) = true := by unfold Env.blockKind; rw [at_.ec.kind]; rfl
  refine wpAny_Assign_ListComp_free (pOf pS) (fun m y => ∃ x, sca m = some x ∧ sca y = some (fS x)) ?_ e h1 hk h2 h3 hy' (by rw [at_.ec.kind]; rfl)
    (comp_run hk hc hi hv ht he at_ hcl fun I s₂ fp n P St k₂ hI hnI W hsz st hf q fin => ⟨I, fp, [I], n, P, St, m, rfl, W, hsz, st, hf, fun q => hI (List.mem_singleton.mp q ▸ hL), hn.keeps (grow k₂), q, fun D h' tk ys vs hD hl hp hlen hP hF hns hk' => ?_⟩) ((kinds _).fold hs env)
  · show (pure (env.blockKind == .function && env.kindOf y == some .local && py.line == pos.line && !(scope.names.any fun p => p.1 == y && (p.2 == .local || p.2 == .cell))) : Sem Bool) = pure true
    rw [hbk, hy', hl, hno]
    rfl
  · have g : ∀ b o, b ≠ env.locals → s.heap.get? b = some o → h'.get? b = some o := fun b o nb eb => hk' b o nb (fun m => by rw [List.mem_singleton.mp m, hnI] at eb; cases eb) (grow k₂ b o eb)
    have hD' : D ∉ hid := fun m => by obtain ⟨o, eo⟩ := at_.ho D m; rw [grow k₂ D o eo] at hD; cases hD
    obtain ⟨h₂, tk₂, e₂, _⟩ := k₂
    subst e₂
    exact h D h' tk hns g (plain_list (W := vw h' hid) hp hD' (fin vs ys.toList hlen hP hF))
end


/-! what a block's run stands on -/
@[reducible] noncomputable def slots (env : Env) : List Addr := env.locals :: env.cells.map (·.2)
/-- the frame's names and what it alone writes into -/
@[reducible] noncomputable def own (env : Env) (ads : List (Str × Addr)) : List Addr := ads.map (·.2) ++ slots env
/-- a thing that is still being written -/
noncomputable def RelM (C : Addr) (W : View) (h : Heap) (a : Addr) : V → Prop
  | .list l => ∃ vs n, h.get? a = some (listO vs n) ∧ RelL l vs
  | .dw ks l => ∃ o vs, h.get? a = some o ∧ IntD o ks vs ∧ Both (RelWS C W) l vs
  | .ds ks l => ∃ o vs, h.get? a = some o ∧ IntD o ks vs ∧ RelL l vs
  | _ => False
theorem RelM.same {C : Addr} {W W' : View} {h h' : Heap} {a : Addr} {v : V} (r : RelM C W h a v) (k : ∀ b o, W b o → W' b o) (e : ∀ o, h.get? a = some o → h'.get? a = some o) : RelM C W' h' a v := by
  cases v with
  | list l => obtain ⟨vs, n, e1, r⟩ := r; exact ⟨vs, n, e _ e1, r⟩
  | dw ks l => obtain ⟨o, vs, e1, i, r⟩ := r; exact ⟨o, vs, e _ e1, i, both_mono k r⟩
  | ds ks l => obtain ⟨o, vs, e1, i, r⟩ := r; exact ⟨o, vs, e _ e1, i, r⟩
  | _ => exact r.elim
theorem RelM.freeze {C : Addr} {W W' : View} {h : Heap} {a : Addr} {v : V} (r : RelM C W h a v) (k : ∀ b o, W b o → W' b o) (e : ∀ o, h.get? a = some o → W' a o) : RelV C W' v (.ref a) := by
  cases v with
  | list l => obtain ⟨vs, n, e1, r⟩ := r; exact ⟨a, vs, n, rfl, e _ e1, r⟩
  | dw ks l => obtain ⟨o, vs, e1, i, r⟩ := r; exact ⟨a, o, vs, rfl, e _ e1, i, both_mono k r⟩
  | ds ks l => obtain ⟨o, vs, e1, i, r⟩ := r; exact ⟨a, o, vs, rfl, e _ e1, i, r⟩
  | _ => exact r.elim

structure Fr (c : Cx) (d : Nat) (sc : Sc) (env : Env) (B : View) (hid : List Addr) (ads : List (Str × Addr)) (A : Around) (h : Heap) : Prop where
  R : Room A d
  ec : EC c env sc h
  tb : ∀ b o, c.H.get? b = some o → B b o
  gb : ∀ b o, B b o → h.get? b = some o
  ho : HidOk (own env ads ++ hid) h
  nd : (own env ads).Nodup
  ap : ∀ a ∈ own env ads, (∀ o, ¬ B a o) ∧ a ∉ hid
  ns : ∃ m, h.Ns env.locals m
  cl : ∀ p : Str × Addr, env.cells.lookup p.1 = some p.2 → ∃ v, h.IsCell p.2 v
structure St (c : Cx) (d : Nat) (sc : Sc) (env : Env) (B : View) (hid : List Addr) (ρ ω : Rho) (ads : List (Str × Addr)) (A : Around) (h : Heap) : Prop where
  fr : Fr c d sc env B hid ads A h
  rd : Reads c env sc (own env ads ++ hid) h ρ
  mu : ∀ x v, isVar sc x = true → ω.lookup x = some v → ∃ a, (x, a) ∈ ads ∧ Holds env sc h x (.ref a) ∧ RelM c.C (vw h (own env ads ++ hid)) h a v

theorem snd_inj {x y : Str} {a : Addr} : ∀ {l : List (Str × Addr)}, (l.map (·.2)).Nodup → (x, a) ∈ l → (y, a) ∈ l → x = y := by
  intro l
  induction l with
  | nil => intro _ m; exact nomatch m
  | cons p l ih =>
    intro nd m1 m2
    obtain ⟨h1, h2⟩ := List.nodup_cons.mp nd
    rcases List.mem_cons.mp m1 with m1 | m1
    · rcases List.mem_cons.mp m2 with m2 | m2
      · rw [← m2] at m1; injection m1
      · exact absurd (List.mem_map_of_mem (f := (·.2)) m2) (by rw [← m1] at h1; exact h1)
    · rcases List.mem_cons.mp m2 with m2 | m2
      · exact absurd (List.mem_map_of_mem (f := (·.2)) m1) (by rw [← m2] at h1; exact h1)
      · exact ih h2 m1 m2

theorem cell_at {h h' : Heap} {a : Addr} {v : Option Value} (x : h.IsCell a v) (e : ∀ o, h.get? a = some o → h'.get? a = some o) : h'.IsCell a v := x.elim fun o r => ⟨o, e o r.1, r.2⟩
@[reducible] noncomputable def SameBut1 (x : Addr) (h h' : Heap) : Prop := ∀ b o, b ≠ x → h.get? b = some o → h'.get? b = some o
section
variable {c : Cx} {d : Nat} {sc : Sc} {env : Env} {B : View} {hid : List Addr} {ads : List (Str × Addr)} {A : Around} {h h' : Heap} {ρ ω : Rho}
theorem view_same {x : Addr} {l : List Addr} (hx : x ∈ l) (hs : SameBut1 x h h') : ∀ b o, vw h l b o → vw h' l b o := fun b o w => ⟨hs b o (fun e => w.2 (e ▸ hx)) w.1, w.2⟩
theorem Fr.upd (f : Fr c d sc env B hid ads A h) {x : Addr} (hx : x ∈ own env ads) (hs : SameBut1 x h h') (hn : ∃ o, h'.get? x = some o) (ns : ∃ m, h'.Ns env.locals m) (cl : ∀ p : Str × Addr, env.cells.lookup p.1 = some p.2 → ∃ v, h'.IsCell p.2 v) : Fr c d sc env B hid ads A h' where
  R := f.R
  ec := ⟨f.ec.1, f.ec.2, f.ec.3, f.ec.4, fun b o e => hs b o (fun q => (f.ap x hx).1 o (q ▸ f.tb b o e)) (f.ec.5 b o e), f.ec.6⟩
  tb := f.tb
  gb := fun b o e => hs b o (fun q => (f.ap x hx).1 o (q ▸ e)) (f.gb b o e)
  ho := fun a m => by
    by_cases e : a = x
    · exact e ▸ hn
    · obtain ⟨o, eo⟩ := f.ho a m; exact ⟨o, hs a o e eo⟩
  nd := f.nd
  ap := f.ap
  ns := ns
  cl := cl
theorem Fr.grows (f : Fr c d sc env B hid ads A h) (g : Grows h h') : Fr c d sc env B hid ads A h' where
  R := f.R
  ec := ⟨f.ec.1, f.ec.2, f.ec.3, f.ec.4, f.ec.5.trans g, f.ec.6⟩
  tb := f.tb
  gb := fun b o e => g b o (f.gb b o e)
  ho := f.ho.grows g
  nd := f.nd
  ap := f.ap
  ns := f.ns.elim fun m e => ⟨m, e.keeps g⟩
  cl := fun p m => (f.cl p m).elim fun v e => ⟨v, e.keeps g⟩
theorem St.grows (st : St c d sc env B hid ρ ω ads A h) (g : Grows h h') : St c d sc env B hid ρ ω ads A h' :=
  ⟨st.fr.grows g, fun x v k l => by obtain ⟨mv, p, q⟩ := st.rd x v k l; exact ⟨mv, p.grows g, q.mono (vw_grows g)⟩,
    fun x v k l => by obtain ⟨a, m, p, q⟩ := st.mu x v k l; exact ⟨a, m, p.grows g, q.same (vw_grows g) (g a)⟩⟩
/-- what is settled -/
theorem St.atF (st : St c d sc env B hid ρ ω ads A h) : At c d sc ρ A env (own env ads ++ hid) h := ⟨st.fr.R, st.fr.ec, st.fr.ho, st.rd⟩
theorem lookup_append {α : Type} {x : Str} {v : α} {l r : List (Str × α)} (h : (l ++ r).lookup x = some v) : l.lookup x = some v ∨ r.lookup x = some v := by
  rw [List.lookup_append] at h; exact or_some h
/-- all, to look at -/
theorem St.atAll (st : St c d sc env B hid ρ ω ads A h) : At c d sc (ω ++ ρ) A env [] h := ⟨st.fr.R, st.fr.ec, (fun _ m => nomatch m), fun x v k l => by
  have kk : ∀ b o, vw h (own env ads ++ hid) b o → vw h [] b o := fun b o w => ⟨w.1, fun m => nomatch m⟩
  rcases lookup_append l with l | l
  · obtain ⟨a, _, p, q⟩ := st.mu x v k l; exact ⟨_, p, q.freeze kk fun o e => ⟨e, fun m => nomatch m⟩⟩
  · obtain ⟨mv, p, q⟩ := st.rd x v k l; exact ⟨mv, p, q.mono kk⟩⟩
noncomputable def isSc (ρ : Rho) (y : Str) : Bool := match ρ.lookup y with
  | some (.sc _) => true
  | _ => false
noncomputable def scalars (ρ : Rho) : Rho := ρ.filter fun p => isSc ρ p.1
noncomputable def occ (h : Heap) : List Addr := (List.range h.objs.size).filter fun a => (h.get? a).isSome
theorem occ_none {h : Heap} {a : Addr} (n : a ∉ occ h) : h.get? a = none := by
  cases e : h.get? a with
  | none => rfl
  | some o => exact absurd (List.mem_filter.mpr ⟨List.mem_range.mpr (Heap.lt_size e), by rw [e]; rfl⟩) n
/-- what a new thing is made of -/
theorem St.atNew (st : St c d sc env B hid ρ ω ads A h) : At c d sc (scalars (ω ++ ρ)) A env (occ h) h := ⟨st.fr.R, st.fr.ec, fun a m => Option.isSome_iff_exists.mp (List.mem_filter.mp m).2, fun x v k l => by
  obtain ⟨h1, h2⟩ := lookup_filter l
  obtain ⟨mv, p, q⟩ := st.atAll.rd x v k h2
  refine ⟨mv, p, ?_⟩
  unfold isSc at h1
  rw [h2] at h1
  cases v <;> first | exact q | (injection h1; done)⟩

theorem Holds.same (f : Fr c d sc env B hid ads A h) {x : Addr} (hx : x ∉ slots env) (hs : SameBut1 x h h') {y : Str} {mv : Value} (e : Holds env sc h y mv) : Holds env sc h' y mv := by
  rcases e with ⟨k, m, n, e⟩ | ⟨k, a, l, i⟩
  · exact .inl ⟨k, m, n.at' fun o => hs _ o fun q => hx (q ▸ List.mem_cons_self ..), e⟩
  · exact .inr ⟨k, a, l, cell_at i fun o => hs _ o fun q => hx (q ▸ List.mem_cons_of_mem _ (List.mem_map_of_mem (f := (·.2)) (mem_of_lookup l)))⟩

theorem ads_own {x : Str} {a : Addr} (hx : (x, a) ∈ ads) : a ∈ own env ads := List.mem_append_left _ (List.mem_map_of_mem (f := (·.2)) hx)
theorem ads_slots (f : Fr c d sc env B hid ads A h) {x : Str} {a : Addr} (hx : (x, a) ∈ ads) : a ∉ slots env := fun m => (List.nodup_append.mp f.nd).2.2 a (List.mem_map_of_mem (f := (·.2)) hx) a m rfl
noncomputable def upd (x : Str) (v : V) : Rho → Rho
  | [] => [(x, v)]
  | p :: l => bif p.1 == x then (x, v) :: l else p :: upd x v l
theorem upd_lookup {x y : Str} {v w : V} {l : Rho} (h : (upd x v l).lookup y = some w) : (y = x ∧ v = w) ∨ (y ≠ x ∧ l.lookup y = some w) := by
  have hd : ∀ {l : Rho}, ((x, v) :: l).lookup y = some w → (y = x ∧ v = w) ∨ (y ≠ x ∧ l.lookup y = some w) := fun h => by
    rw [List.lookup_cons] at h
    by_cases e : y = x
    · rw [beq_iff_eq.mpr e] at h; injection h with h; exact .inl ⟨e, h⟩
    · rw [beq_eq_false_iff_ne.mpr e] at h; exact .inr ⟨e, h⟩
  induction l with
  | nil => exact hd h
  | cons p l ih =>
    unfold upd at h
    cases q : p.1 == x with
    | true =>
      rw [q] at h
      refine (hd h).imp_right fun h => ⟨h.1, ?_⟩
      rw [List.lookup_cons, beq_eq_false_iff_ne.mpr (show y ≠ p.1 from fun e => h.1 (e.trans (beq_iff_eq.mp q)))]; exact h.2
    | false =>
      rw [q] at h
      have h : (p :: upd x v l).lookup y = some w := h
      rw [List.lookup_cons] at h ⊢
      by_cases e : y = p.1
      · rw [beq_iff_eq.mpr e] at h ⊢; exact .inr ⟨fun e' => beq_eq_false_iff_ne.mp q (e ▸ e'), h⟩
      · rw [beq_eq_false_iff_ne.mpr e] at h ⊢; exact ih h
/-- a thing is written into -/
theorem St.mutate (st : St c d sc env B hid ρ ω ads A h) {x : Str} {a : Addr} {v : V} (hx : (x, a) ∈ ads) (hh : Holds env sc h x (.ref a)) (hs : SameBut1 a h h') (hn : ∃ o, h'.get? a = some o) (r : RelM c.C (vw h' (own env ads ++ hid)) h' a v) :
    St c d sc env B hid ρ (upd x v ω) ads A h' := by
  have ha := ads_slots st.fr hx
  have kk := view_same (h := h) (h' := h') (List.mem_append_left hid (ads_own (env := env) hx)) hs
  refine ⟨st.fr.upd (ads_own hx) hs hn (st.fr.ns.elim fun m e => ⟨m, e.at' fun o => hs _ o fun q => ha (q ▸ List.mem_cons_self ..)⟩)
    (fun p m => (st.fr.cl p m).elim fun v e => ⟨v, cell_at e fun o => hs _ o fun q => ha (q ▸ List.mem_cons_of_mem _ (List.mem_map_of_mem (f := (·.2)) (mem_of_lookup m)))⟩), fun y v k l => ?_, fun y v k l => ?_⟩
  · obtain ⟨mv, p, q⟩ := st.rd y v k l
    exact ⟨mv, p.same st.fr ha hs, q.mono kk⟩
  · rcases upd_lookup l with ⟨e, l⟩ | ⟨e, l⟩
    · rw [e, ← l]
      exact ⟨a, hx, hh.same st.fr ha hs, r⟩
    · obtain ⟨b, m, p, q⟩ := st.mu y v k l
      exact ⟨b, m, p.same st.fr ha hs, q.same kk fun o => hs b o fun q => e (snd_inj (List.nodup_append.mp st.fr.nd).1 (q ▸ m) hx)⟩

noncomputable def rem (x : Str) (ω : Rho) : Rho := ω.filter fun p => !(p.1 == x)
theorem rem_lookup {x y : Str} {v : V} {ω : Rho} (h : (rem x ω).lookup y = some v) : y ≠ x ∧ ω.lookup y = some v := by
  obtain ⟨h1, h2⟩ := lookup_filter (f := fun p => !(p == x)) h
  refine ⟨fun e => ?_, h2⟩
  rw [e, Bool.not_eq_true'] at h1
  exact absurd rfl (beq_eq_false_iff_ne.mp h1)
/-- a thing is written no more -/
theorem St.freeze (st : St c d sc env B hid ρ ω ads A h) {x : Str} {v : V} (hk : isVar sc x = true) (hx : ω.lookup x = some v) : ∃ ads', St c d sc env B hid (upd x v ρ) (rem x ω) ads' A h := by
  obtain ⟨a, m, p, q⟩ := st.mu x v hk hx
  have sub : ∀ b, b ∈ own env (ads.filter fun p => !(p.2 == a)) ++ hid → b ∈ own env ads ++ hid ∧ b ≠ a := fun b mb => by
    have ha := st.fr.ap a (ads_own m)
    rcases List.mem_append.mp mb with mb | mb
    · rcases List.mem_append.mp mb with mb | mb
      · obtain ⟨p, m1, rfl⟩ := List.mem_map.mp mb
        obtain ⟨m1, m2⟩ := List.mem_filter.mp m1
        exact ⟨List.mem_append_left _ (ads_own m1), beq_eq_false_iff_ne.mp ((Bool.not_eq_true' _).mp m2)⟩
      · exact ⟨List.mem_append_left _ (List.mem_append_right _ mb), fun e => ads_slots st.fr m (e ▸ mb)⟩
    · exact ⟨List.mem_append_right _ mb, fun e => ha.2 (e ▸ mb)⟩
  have kk : ∀ b o, vw h (own env ads ++ hid) b o → vw h (own env (ads.filter fun p => !(p.2 == a)) ++ hid) b o := fun b o w => ⟨w.1, fun mb => w.2 (sub b mb).1⟩
  have ns : (own env (ads.filter fun p => !(p.2 == a))).Sublist (own env ads) := List.Sublist.append (List.Sublist.map _ List.filter_sublist) (List.Sublist.refl _)
  refine ⟨ads.filter fun p => !(p.2 == a), ⟨st.fr.R, st.fr.ec, st.fr.tb, st.fr.gb, fun b mb => st.fr.ho b (sub b mb).1, st.fr.nd.sublist ns, fun b mb => st.fr.ap b (ns.subset mb), st.fr.ns, st.fr.cl⟩, fun y v k l => ?_, fun y v k l => ?_⟩
  · rcases upd_lookup l with ⟨e, l⟩ | ⟨e, l⟩
    · rw [e, ← l]
      exact ⟨_, p, q.freeze kk fun o eo => ⟨eo, fun mb => (sub a mb).2 rfl⟩⟩
    · obtain ⟨mv, p, q⟩ := st.rd y v k l
      exact ⟨mv, p, q.mono kk⟩
  · obtain ⟨e, l⟩ := rem_lookup l
    obtain ⟨b, mb, p', q'⟩ := st.mu y v k l
    refine ⟨b, List.mem_filter.mpr ⟨mb, (Bool.not_eq_true' _).mpr (beq_eq_false_iff_ne.mpr fun q => e ?_)⟩, p', q'.same kk fun _ e => e⟩
    have q : b = a := q
    exact snd_inj (List.nodup_append.mp st.fr.nd).1 (q ▸ mb) m

/-- how a name's new value shows -/
structure Shown (sc : Sc) (env : Env) (x : Str) (mv : Value) (h h' : Heap) : Prop where
  at_ : Holds env sc h' x mv
  oth : ∀ y w, y ≠ x → Holds env sc h y w → Holds env sc h' y w
  sb : ∀ b o, b ∉ slots env → h.get? b = some o → h'.get? b = some o
theorem Fr.local (f : Fr c d sc env B hid ads A h) {x : Str} {mv : Value} {m : Str → Option Value} (hx : sc.lookup x = some .local) (hn : h.Ns env.locals m) (hn' : h'.Ns env.locals (fun z => if z = x then some mv else m z)) (sb1 : SameBut1 env.locals h h') :
    Fr c d sc env B hid ads A h' ∧ Shown sc env x mv h h' := by
  obtain ⟨_, nd, _⟩ := List.nodup_append.mp f.nd
  obtain ⟨nl, nc⟩ := List.nodup_cons.mp nd
  have hc : ∀ {a}, a ∈ env.cells.map (·.2) → a ≠ env.locals := fun m e => nl (e ▸ m)
  refine ⟨f.upd (List.mem_append_right _ (List.mem_cons_self ..)) sb1 (hn'.elim fun o r => r.elim fun _ r => r.elim fun _ r => ⟨o, r.1⟩) ⟨_, hn'⟩ fun p mp => (f.cl p mp).elim fun v e => ⟨v, cell_at e fun o => sb1 _ o (hc (List.mem_map_of_mem (f := (·.2)) (mem_of_lookup mp)))⟩,
    .inl ⟨hx, _, hn', if_pos rfl⟩, fun y w ny hw => ?_, fun b o nb e => sb1 b o (fun q => nb (q ▸ List.mem_cons_self ..)) e⟩
  rcases hw with ⟨ky, m', hm', ew⟩ | ⟨ky, a, l, i⟩
  · obtain ⟨_, _, _, e1, e2, _, e3⟩ := hn
    obtain ⟨_, _, _, e1', e2', _, e3'⟩ := hm'
    rw [e1] at e1'
    injection e1' with e1'
    subst e1'
    rw [e2] at e2'
    injection e2' with e2' _
    subst e2'
    exact .inl ⟨ky, _, hn', (if_neg ny).trans ((e3 y).symm.trans ((e3' y).trans ew))⟩
  · exact .inr ⟨ky, a, l, cell_at i fun o => sb1 _ o (hc (List.mem_map_of_mem (f := (·.2)) (mem_of_lookup l)))⟩
theorem Fr.put {s : Shared} (f : Fr c d sc env B hid ads A s.heap) {x : Str} {mv : Value} {M : Model} {Q : Unit → Shared → Prop} {E : Value → Shared → Prop} (hx : sc.lookup x = some .local ∨ sc.lookup x = some .cell)
    (k : ∀ h' tk, Fr c d sc env B hid ads A h' → Shown sc env x mv s.heap h' → Q () { s with heap := h', toks := tk }) : wpAny M A (storeName env x mv) Q E s := by
  obtain ⟨_, nd, _⟩ := List.nodup_append.mp f.nd
  obtain ⟨nl, nc⟩ := List.nodup_cons.mp nd
  have inC : ∀ {y a}, env.cells.lookup y = some a → a ∈ env.cells.map (·.2) := fun l => List.mem_map_of_mem (f := (·.2)) (mem_of_lookup l)
  rcases hx with hx | hx
  · obtain ⟨m, hn⟩ := f.ns
    exact wpAny_storeName_local ((f.ec.kindOf x).trans hx) hn (fun h' hn' sb => (f.local hx hn hn' fun b o nb e => (sb.2 b nb).trans e).elim (k h' _)) (by rw [f.ec.kind]; rfl)
  · obtain ⟨a, l⟩ := f.ec.cells x (.inl hx)
    obtain ⟨v₀, i₀⟩ := f.cl (x, a) l
    refine wpAny_storeName_cell f.ec.kind ((f.ec.kindOf x).trans hx) l i₀ fun h' i' sb => ?_
    have sb1 : SameBut1 a s.heap h' := fun b o nb e => (sb.2 b nb).trans e
    have hal : env.locals ≠ a := fun e => nl (e ▸ inC l)
    refine k h' s.toks (f.upd (List.mem_append_right _ (List.mem_cons_of_mem _ (inC l))) sb1 (i'.elim fun o r => ⟨o, r.1⟩) (f.ns.elim fun m e => ⟨m, e.at' fun o => sb1 _ o hal⟩) fun p mp => ?_)
      ⟨.inr ⟨.inl hx, a, l, i'⟩, fun y w ny hw => ?_, fun b o nb e => sb1 b o (fun q => nb (q ▸ List.mem_cons_of_mem _ (inC l))) e⟩
    · by_cases e : p.2 = a
      · exact ⟨_, e ▸ i'⟩
      · exact (f.cl p mp).elim fun v r => ⟨v, cell_at r fun o => sb1 _ o e⟩
    · rcases hw with ⟨ky, m', hm', ew⟩ | ⟨ky, b, l', i⟩
      · exact .inl ⟨ky, m', hm'.at' fun o => sb1 _ o hal, ew⟩
      · exact .inr ⟨ky, b, l', cell_at i fun o => sb1 _ o fun e => ny (snd_inj nc (mem_of_lookup l') (e ▸ mem_of_lookup l))⟩

theorem view_slots {l : List Addr} (hl : ∀ b ∈ slots env, b ∈ l) (k : ∀ b o, b ∉ slots env → h.get? b = some o → h'.get? b = some o) : ∀ b o, vw h l b o → vw h' l b o := fun b o w => ⟨k b o (fun m => w.2 (hl b m)) w.1, w.2⟩
theorem St.stored (st : St c d sc env B hid ρ ω ads A h) {x : Str} {mv : Value} {v : V} (f : Fr c d sc env B hid ads A h') (sh : Shown sc env x mv h h') (r : RelV c.C (vw h' (own env ads ++ hid)) v mv) : St c d sc env B hid (upd x v ρ) (rem x ω) ads A h' := by
  have kk := view_slots (h := h) (h' := h') (l := own env ads ++ hid) (fun b m => List.mem_append_left _ (List.mem_append_right _ m)) sh.sb
  refine ⟨f, fun y u q l => ?_, fun y u q l => ?_⟩
  · rcases upd_lookup l with ⟨e, l⟩ | ⟨e, l⟩
    · rw [e, ← l]
      exact ⟨mv, sh.at_, r⟩
    · obtain ⟨w, p, q⟩ := st.rd y u q l
      exact ⟨w, sh.oth y w e p, q.mono kk⟩
  · obtain ⟨e, l⟩ := rem_lookup l
    obtain ⟨a, m, p, q⟩ := st.mu y u q l
    exact ⟨a, m, sh.oth y _ e p, q.same kk fun o => sh.sb a o (ads_slots st.fr m)⟩
theorem St.store {s : Shared} (st : St c d sc env B hid ρ ω ads A s.heap) {x : Str} {mv : Value} {v : V} {M : Model} {Q : Unit → Shared → Prop} {E : Value → Shared → Prop} (hx : sc.lookup x = some .local ∨ sc.lookup x = some .cell)
    (r : RelV c.C (vw s.heap (own env ads ++ hid)) v mv) (k : ∀ h' tk, St c d sc env B hid (upd x v ρ) (rem x ω) ads A h' → (∀ b o, vw s.heap (own env ads ++ hid) b o → vw h' (own env ads ++ hid) b o) → Q () { s with heap := h', toks := tk }) : wpAny M A (storeName env x mv) Q E s :=
  st.fr.put hx fun h' tk f sh =>
    have kk := view_slots (h := s.heap) (h' := h') (l := own env ads ++ hid) (fun b m => List.mem_append_left _ (List.mem_append_right _ m)) sh.sb
    k h' tk (st.stored f sh (r.mono kk)) kk

/-- a new thing, to be written into -/
theorem St.storeM {s : Shared} (st : St c d sc env B hid ρ ω ads A h) {x : Str} {a : Addr} {v : V} {M : Model} {Q : Unit → Shared → Prop} {E : Value → Shared → Prop} (hx : sc.lookup x = some .local ∨ sc.lookup x = some .cell) (g : Grows h s.heap) (ha : h.get? a = none)
    (r : ∀ W, RelM c.C W s.heap a v) (hn : ∃ o, s.heap.get? a = some o) (k : ∀ h' tk, St c d sc env B hid (rem x ρ) (upd x v ω) ((x, a) :: ads) A h' → Q () { s with heap := h', toks := tk }) : wpAny M A (storeName env x (.ref a)) Q E s := by
  have no : a ∉ own env ads ++ hid := fun m => by obtain ⟨o, e⟩ := st.fr.ho a m; rw [ha] at e; cases e
  have f := st.fr.grows g
  have f' : Fr c d sc env B hid ((x, a) :: ads) A s.heap := ⟨f.R, f.ec, f.tb, f.gb, fun b m => (List.mem_cons.mp m).elim (fun e => e ▸ hn) (f.ho b), List.nodup_cons.mpr ⟨fun m => no (List.mem_append_left _ m), f.nd⟩,
    fun b m => (List.mem_cons.mp m).elim (fun e => e ▸ ⟨(fun o eb => by have := st.fr.gb a o eb; rw [ha] at this; cases this), fun m => no (List.mem_append_right _ m)⟩) (f.ap b), f.ns, f.cl⟩
  refine f'.put hx fun h' tk f sh => k h' tk ?_
  obtain ⟨hh, oth, sb⟩ := sh
  have kk : ∀ b o, vw h (own env ads ++ hid) b o → vw h' (own env ((x, a) :: ads) ++ hid) b o := fun b o w =>
    ⟨sb b o (fun m => w.2 (List.mem_append_left _ (List.mem_append_right _ m))) (g b o w.1), fun m => (List.mem_cons.mp m).elim (fun e => absurd (e ▸ w.1) (by rw [ha]; exact fun q => nomatch q)) w.2⟩
  refine ⟨f, fun y u q l => ?_, fun y u q l => ?_⟩
  · obtain ⟨e, l⟩ := rem_lookup l
    obtain ⟨w, p, q⟩ := st.rd y u q l
    exact ⟨w, oth y w e (p.grows g), q.mono kk⟩
  · rcases upd_lookup l with ⟨e, l⟩ | ⟨e, l⟩
    · rw [e, ← l]
      exact ⟨a, List.mem_cons_self .., hh, (r (vw h' (own env ((x, a) :: ads) ++ hid))).same (fun _ _ w => w) (fun o => sb a o (fun m => no (List.mem_append_left _ (List.mem_append_right _ m))))⟩
    · obtain ⟨b, m, p, q⟩ := st.mu y u q l
      exact ⟨b, List.mem_cons_of_mem _ m, oth y _ e (p.grows g), q.same kk fun o eo => sb b o (ads_slots st.fr m) (g b o eo)⟩
end


/-! what an expression yields, reckoned -/
structure Pm where
  gc : Str → Option S
  tok : Str → Option Int
  cv : Str → Str → Option S
  F : Fn
  M : Fn
structure PmOk (c : Cx) (d : Nat) (P : Pm) : Prop where
  ok : c.Ok
  gc : c.gc = P.gc
  tok : c.tok = P.tok
  cv : ∀ n x v, P.cv n x = some v → ClsVal c n x v
  fs : FSound c d P.F P.M
structure Evs where
  e : Sc → Rho → Expr → Option V
  t : Sc → Rho → Expr → Option Bool
structure EvsOk (c : Cx) (d : Nat) (T : Evs) : Prop where
  e : ∀ sc ρ e v, T.e sc ρ e = some v → Sat c d sc ρ e v
  t : ∀ sc ρ e b, T.t sc ρ e = some b → SatT c d sc ρ e b

noncomputable def mapO (f : Expr → Option V) : List Expr → Option (List V)
  | [] => some []
  | e :: es => if notStar e = true then (f e).bind fun v => (mapO f es).bind fun vs => some (v :: vs) else none
noncomputable def allSc : List V → Option (List S)
  | [] => some []
  | v :: vs => v.asSc.bind fun x => (allSc vs).bind fun l => some (x :: l)
theorem allSc_eq : ∀ {vs l}, allSc vs = some l → vs = l.map .sc := by
  intro vs
  induction vs with
  | nil => intro l h; injection h with h; rw [← h]; rfl
  | cons v vs ih =>
    intro l h
    refine bind2K h fun x r h1 h2 h3 => ?_
    injection h3 with h3
    rw [← h3, List.map_cons, ← ih h2, asSc_eq h1]
theorem mapO_ok {c : Cx} {d sc ρ} {f : Expr → Option V} (hf : ∀ e v, f e = some v → Sat c d sc ρ e v) : ∀ {es vs}, mapO f es = some vs → SatL c d sc ρ es vs := by
  intro es
  induction es with
  | nil => intro l h; injection h with h; rw [← h]; exact .nil
  | cons e es ih =>
    intro l h
    refine iteK h fun hs h => ?_
    refine bind2K h fun x r h1 h2 h3 => ?_
    injection h3 with h3
    rw [← h3]
    exact .cons hs (hf _ _ h1) (ih h2)

noncomputable def constV : Const → Option V
  | .int i => some (.i i)
  | .str x => some (.s x)
  | .bool b => some (.t b)
  | _ => none
noncomputable def nameV (P : Pm) (sc : Sc) (ρ : Rho) (x : Str) : Option V :=
  if okName x = true then (if isVar sc x = true then ρ.lookup x else none).or (if sc.lookup x = some .globalImplicit then (P.gc x).map .sc else none) else none
noncomputable def tupV (vs : List V) : Option V :=
  ((allSc vs).bind fun l => if small l = true then some (.tup l) else none).or ((two vs).bind fun p => p.1.asT.bind fun l => p.2.asI.bind fun b => some (.norm l b))
noncomputable def bitO (f : Expr → Option V) : Option Expr → Option (Option Int)
  | none => some none
  | some e => (f e).bind fun v => v.asI.map some
noncomputable def sliceV (f : Expr → Option V) (a : V) (q : Option Expr × Option Expr × Option Expr × Pos) : Option V :=
  match q.2.2.1 with
  | none => (bitO f q.1).bind fun l => (bitO f q.2.1).bind fun u => slicev a l u
  | some e => if q.1.isNone = true ∧ q.2.1.isNone = true then (f e).bind fun v => a.asS.bind fun x => if v.asI = some (-1) ∧ x.length ≤ 9999 then some (.s (backS x)) else none else none
noncomputable def subV (P : Pm) (sc : Sc) (f : Expr → Option V) (o i : Expr) : Option V :=
  ((asSlice i).bind fun q => (f o).bind fun a => sliceV f a q).or
    (if notSlice i = true then ((f i).bind fun k => (k.asI.bind fun j => (f o).bind fun a => itemv a j).or
      (k.asS.bind fun x => (asName o).bind fun q => if q.1 = "EXACT_TOKEN_TYPES" ∧ sc.lookup (Str.ofString "EXACT_TOKEN_TYPES") = some .globalImplicit then (P.tok x).map V.i else none)) else none)
noncomputable def attrV (P : Pm) (sc : Sc) (f : Expr → Option V) (o : Expr) (x : Str) : Option V :=
  (asName o).bind fun q => ((f o).bind fun v => (v.asW.bind fun w => (atTab.lookup x).map fun k => k.get w).or (if x = "raw" then v.asP.map V.s else none)).or (if sc.lookup q.1 = some .globalImplicit ∧ okName q.1 = true then (P.cv q.1 x).map V.sc else none)
noncomputable def callV (P : Pm) (sc : Sc) (f : Expr → Option V) (g : Expr) (vs : List V) (pos : Pos) (n : Nat) : Option V :=
  ((asName g).bind fun q => if sc.lookup q.1 = some .globalImplicit ∧ okName q.1 = true then ((biTab.lookup q.1).bind fun b => bicall b vs).or (P.F q.1 vs) else none).or
    ((asAttr g).bind fun q => if plainBase q.1 = true ∧ n < 29 ∧ (q.2.2.endLine == pos.line) = true then
      (f q.1).bind fun v => (v.asS.bind fun x => (smTab.lookup q.2.1).bind fun m => strmeth m x vs).or (v.asW.bind fun w => if isMeth q.2.1 = true then P.M q.2.1 (.ws w :: vs) else none) else none)
noncomputable def ifsV (T : Evs) (sc : Sc) (ρ : Rho) (ifs : List Expr) : Option Bool :=
  (if ifs.isEmpty = true then some true else none).or ((one ifs).bind fun t => T.t sc ρ t)
/-- all items' tests and values -/
noncomputable def compGo (p : S → Option Bool) (f : S → Option V) : List S → Option (List S)
  | [] => some []
  | x :: l => (p x).bind fun b => (compGo p f l).bind fun r => if b = true then (f x).bind fun v => v.asSc.map (· :: r) else some r
noncomputable def compV (T : Evs) (sc : Sc) (ρ : Rho) (elt : Expr) (g : Comprehension) (scope : Scope) : Option (List S) :=
  (asName g.target).bind fun q => if scope.kind = .function ∧ compOk sc scope.names q.1 = true ∧ notSet g.iter = true ∧ g.is_async = 0 then
    (T.e sc ρ g.iter).bind fun v => (itemsV v).bind fun items => compGo (fun i => ifsV T (innerSc sc scope.names) (innerRho (innerSc sc scope.names) ρ q.1 i) g.ifs) (fun i => T.e (innerSc sc scope.names) (innerRho (innerSc sc scope.names) ρ q.1 i) elt) items else none

noncomputable def isAnd : BoolOp → Bool
  | .And => true
  | _ => false
noncomputable def isNeg : UnaryOp → Bool
  | .USub => true
  | _ => false
noncomputable def stepE (P : Pm) (T : Evs) (sc : Sc) (ρ : Rho) : Expr → Option V
  | .Constant k _ _ => constV k
  | .Name x _ => nameV P sc ρ x
  | .BinOp l op r _ => (T.e sc ρ l).bind fun a => (T.e sc ρ r).bind fun b => binop op a b
  | .UnaryOp op x _ => if isNeg op = true then (T.e sc ρ x).bind fun v => v.asI.map fun i => .i (-i) else none
  | .Compare l ops rs _ => (one ops).bind fun op => (one rs).bind fun r => if behindInMarks op r = false then (T.e sc ρ l).bind fun a => (T.e sc ρ r).bind fun b => (cmpop op a b).map V.t else none
  | .BoolOp op es _ => (two es).bind fun p => if isAnd op = true then (T.e sc ρ p.1).bind fun a => (truth a).bind fun t => if t = true then T.e sc ρ p.2 else some a else none
  | .List es _ => (mapO (T.e sc ρ) es).bind fun vs => (allSc vs).bind fun l => if small l = true then some (.list l) else none
  | .Tuple es _ _ => (mapO (T.e sc ρ) es).bind tupV
  | .Subscript o i _ => subV P sc (T.e sc ρ) o i
  | .Attribute o x _ => attrV P sc (T.e sc ρ) o x
  | .Call g es kw pos => if kw.isEmpty = true then (mapO (T.e sc ρ) es).bind fun vs => callV P sc (T.e sc ρ) g vs pos es.length else none
  | .ListComp elt gens scope _ => (one gens).bind fun g => (compV T sc ρ elt g scope).map V.list
  | _ => none
noncomputable def stepT (T : Evs) (sc : Sc) (ρ : Rho) (e : Expr) : Option Bool := match e with
  | .Compare l ops rs _ => (one ops).bind fun op => (one rs).bind fun r => if behindInMarks op r = false then (T.e sc ρ l).bind fun a => (T.e sc ρ r).bind fun b => cmpop op a b else none
  | .BoolOp op es _ => (two es).bind fun p => (T.t sc ρ p.1).bind fun a => if isAnd op = true then (if a = true then T.t sc ρ p.2 else some false) else (if a = true then some true else T.t sc ρ p.2)
  | e => if plainTest e = true then (T.e sc ρ e).bind truth else none
noncomputable def evs (P : Pm) : Nat → Evs
  | 0 => ⟨fun _ _ _ => none, fun _ _ _ => none⟩
  | n + 1 => ⟨stepE P (evs P n), stepT (evs P n)⟩

noncomputable def pG (p : S → Option Bool) (i : S) : Bool := (p i).getD false
noncomputable def fG (f : S → Option V) (i : S) : S := ((f i).bind V.asSc).getD .none
theorem compGo_ok {p : S → Option Bool} {f : S → Option V} : ∀ {items r}, compGo p f items = some r → r = (items.filter (pG p)).map (fG f) ∧ ∀ i ∈ items, p i = some (pG p i) ∧ (pG p i = true → f i = some (.sc (fG f i))) := by
  intro items
  induction items with
  | nil => intro r h; injection h with h; rw [← h]; exact ⟨rfl, fun _ m => nomatch m⟩
  | cons x l ih =>
    intro r h
    refine bind2K h fun b r' h1 h2 h3 => ?_
    obtain ⟨e, q⟩ := ih h2
    have hp : pG p x = b := by unfold pG; rw [h1]; rfl
    by_cases hb : b = true
    · rw [if_pos hb] at h3
      refine bindK h3 fun v h4 h5 => ?_
      refine mapK h5 fun y h6 h7 => ?_
      have hf : fG f x = y := by unfold fG; rw [h4]; exact congrArg (Option.getD · S.none) h6
      have hv := asSc_eq h6
      refine ⟨?_, fun i m => (List.mem_cons.mp m).elim (fun e => ?_) (q i)⟩
      · rw [List.filter_cons, if_pos (hp.trans hb), List.map_cons, hf, ← e, h7]
      · rw [e, hp, hf]; exact ⟨h1, fun _ => hv ▸ h4⟩
    · rw [if_neg hb] at h3
      injection h3 with h3
      refine ⟨?_, fun i m => (List.mem_cons.mp m).elim (fun e => ?_) (q i)⟩
      · rw [List.filter_cons, if_neg (hp ▸ hb), ← h3, e]
      · rw [e, hp]; exact ⟨h1, fun k => absurd k hb⟩

section
variable {c : Cx} {d : Nat} {P : Pm} {T : Evs} {sc : Sc} {ρ : Rho}
theorem bitO_ok {f : Expr → Option V} (hf : ∀ e v, f e = some v → Sat c d sc ρ e v) {x : Option Expr} {i : Option Int} (h : bitO f x = some i) : SatO c d sc ρ x i := by
  cases x with
  | none => injection h with h; rw [← h]; exact trivial
  | some e =>
    refine bindK h fun v h1 h2 => ?_
    refine mapK h2 fun j h3 h4 => ?_
    rw [← h4]
    have := hf _ _ h1
    rw [asI_eq h3] at this
    exact this
theorem subV_ok (po : PmOk c d P) {f : Expr → Option V} (hf : ∀ e v, f e = some v → Sat c d sc ρ e v) {o i : Expr} {pos v} (h : subV P sc f o i = some v) : Sat c d sc ρ (.Subscript o i pos) v := by
  refine orK h (fun h => ?_) fun h => ?_
  · refine bind2K h fun q a h1 h2 h3 => ?_
    rw [asSlice_eq h1]
    unfold sliceV at h3
    cases e : q.2.2.1 with
    | none =>
      rw [e] at h3
      refine bind2K h3 fun l u h4 h5 h6 => ?_
      exact sat_slice (hf _ _ h2) (bitO_ok hf h4) (bitO_ok hf h5) h6
    | some x =>
      rw [e] at h3
      obtain ⟨⟨c1, c2⟩, h3⟩ := ite_some h3
      refine bind2K h3 fun w y h4 h5 h6 => ?_
      obtain ⟨⟨c3, c4⟩, h6⟩ := ite_some h6
      injection h6 with h6
      rw [Option.isNone_iff_eq_none.mp c1, Option.isNone_iff_eq_none.mp c2, ← h6]
      exact sat_back (asS_eq h5 ▸ hf _ _ h2) (asI_eq c3 ▸ hf _ _ h4) c4
  · refine iteK h fun hs h => ?_
    refine bindK h fun k h1 h2 => ?_
    refine orK h2 (fun h2 => ?_) fun h2 => ?_
    · refine bind2K h2 fun j a h3 h4 h5 => ?_
      exact sat_item hs (hf _ _ h4) (asI_eq h3 ▸ hf _ _ h1) h5
    · refine bind2K h2 fun x q h3 h4 h5 => ?_
      obtain ⟨⟨c1, c2⟩, h5⟩ := ite_some h5
      refine mapK h5 fun j h6 h7 => ?_
      rw [asName_eq h4, c1, ← h7]
      exact sat_tok po.ok hs c2 (asS_eq h3 ▸ hf _ _ h1) (po.tok ▸ h6)
theorem attrV_ok (po : PmOk c d P) {f : Expr → Option V} (hf : ∀ e v, f e = some v → Sat c d sc ρ e v) {o : Expr} {x pos v} (h : attrV P sc f o x = some v) : Sat c d sc ρ (.Attribute o x pos) v := by
  refine bindK h fun q h1 h2 => ?_
  refine orK h2 (fun h2 => ?_) fun h2 => ?_
  · refine bindK h2 fun a h3 h4 => ?_
    have sa := hf _ _ h3
    rw [asName_eq h1] at sa ⊢
    refine orK h4 (fun h4 => ?_) fun h4 => ?_
    · refine bindK h4 fun w h4 h5 => mapK h5 fun k h6 h7 => ?_
      rw [asW_eq h4] at sa
      rw [← h7]
      exact sat_attr po.ok h6 sa
    · refine iteK h4 fun c1 h4 => mapK h4 fun k h6 h7 => ?_
      rw [c1, ← h7]
      exact sat_part po.ok sa h6
  · obtain ⟨⟨c1, c2⟩, h3⟩ := ite_some h2
    refine mapK h3 fun k h6 h7 => ?_
    rw [asName_eq h1, ← h7]
    exact sat_clsattr po.ok c1 c2 (po.cv _ _ _ h6)
theorem callV_ok (po : PmOk c d P) {f : Expr → Option V} (hf : ∀ e v, f e = some v → Sat c d sc ρ e v) {g : Expr} {es vs pos v} (ha : SatL c d sc ρ es vs) (h : callV P sc f g vs pos es.length = some v) : Sat c d sc ρ (.Call g es [] pos) v := by
  refine orK h (fun h => ?_) fun h => ?_
  · refine bindK h fun q h1 h2 => ?_
    obtain ⟨⟨c1, c2⟩, h3⟩ := ite_some h2
    rw [asName_eq h1]
    refine orK h3 (fun h3 => ?_) fun h3 => ?_
    · refine bindK h3 fun b h4 h5 => ?_
      exact sat_bicall po.ok c1 c2 h4 ha h5
    · exact sat_call po.ok po.fs c1 c2 ha h3
  · refine bindK h fun q h1 h2 => ?_
    obtain ⟨⟨c1, c2, c3⟩, h3⟩ := ite_some h2
    refine bindK h3 fun a h4 h5 => ?_
    rw [asAttr_eq h1]
    refine orK h5 (fun h5 => ?_) fun h5 => ?_
    · refine bind2K h5 fun x m h6 h7 h8 => ?_
      exact sat_strmeth po.ok c1 c2 c3 h7 (asS_eq h6 ▸ hf _ _ h4) ha h8
    · refine bindK h5 fun w h6 h7 => ?_
      refine iteK h7 fun c4 h7 => ?_
      exact sat_meth po.ok po.fs c1 c2 c3 c4 (asW_eq h6 ▸ hf _ _ h4) ha h7
theorem ifsV_ok (TI : EvsOk c d T) {ifs b} (h : ifsV T sc ρ ifs = some b) : SatF c d sc ρ ifs b := by
  refine orK h (fun h => ?_) fun h => ?_
  · refine iteK h fun c1 h => ?_
    injection h with h
    exact .inl ⟨List.isEmpty_iff.mp c1, h.symm⟩
  · refine bindK h fun t h1 h2 => ?_
    exact .inr ⟨t, one_eq h1, TI.t _ _ _ _ h2⟩
theorem gen_eq {g : Comprehension} {q : Str × Pos} (h : asName g.target = some q) (h0 : g.is_async = 0) : g = ⟨.Name q.1 q.2, g.iter, g.ifs, 0⟩ := by
  have e := asName_eq h
  cases g
  cases e
  cases h0
  rfl
theorem stepE_ok (po : PmOk c d P) (TI : EvsOk c d T) {e : Expr} {v : V} (h : stepE P T sc ρ e = some v) : Sat c d sc ρ e v := by
  have I := TI.e sc ρ
  cases e with
  | Constant k n pos => cases k <;> first | (injection h with h; rw [← h]; first | exact sat_int | exact sat_str | exact sat_bool) | exact nomatch (show none = some v from h)
  | Name x pos =>
    refine iteK h fun c1 h => ?_
    refine orK h (fun h => ?_) fun h => ?_
    · refine iteK h fun c2 h => ?_
      exact sat_name c2 h c1
    · refine iteK h fun c2 h => ?_
      refine mapK h fun k h6 h7 => ?_
      rw [← h7]
      exact sat_global po.ok c2 (po.gc ▸ h6) c1
  | BinOp l op r pos =>
    refine bind2K h fun a b h1 h2 h3 => ?_
    exact sat_binop (I _ _ h1) (I _ _ h2) h3
  | UnaryOp op x pos =>
    cases op with
    | USub =>
      refine bindK h fun a h1 h2 => ?_
      refine mapK h2 fun k h6 h7 => ?_
      rw [← h7]
      exact sat_neg (asI_eq h6 ▸ I _ _ h1)
    | _ => exact nomatch (show none = some v from h)
  | Compare l ops rs pos =>
    refine bind2K h fun op r h1 h2 h3 => ?_
    refine iteK h3 fun c1 h3 => ?_
    refine bind2K h3 fun a b h4 h5 h6 => ?_
    refine mapK h6 fun k h7 h8 => ?_
    rw [one_eq h1, one_eq h2, ← h8]
    exact sat_cmp (I _ _ h4) (I _ _ h5) h7 c1
  | BoolOp op es pos =>
    refine bindK h fun p h1 h2 => ?_
    rw [two_eq h1]
    cases op with
    | And =>
      obtain ⟨a, t, h3, h4, h5⟩ := bind2 (show (T.e sc ρ p.1 |>.bind fun a => (truth a).bind fun t => if t = true then T.e sc ρ p.2 else some a) = some v from h2)
      cases t with
      | true => exact sat_and2 (b := v) (I _ _ h3) h4 (fun _ => I _ _ h5)
      | false => injection h5 with h5; exact h5 ▸ sat_and2 (b := v) (I _ _ h3) h4 (fun q => nomatch q)
    | Or => exact nomatch (show none = some v from h2)
  | List es pos =>
    refine bind2K h fun vs l h1 h2 h3 => ?_
    refine iteK h3 fun c1 h3 => ?_
    injection h3 with h3
    rw [← h3]
    exact sat_list (allSc_eq h2 ▸ mapO_ok I h1) (of_decide_eq_true c1)
  | Tuple es k pos =>
    refine bindK h fun vs h1 h2 => ?_
    have ha := mapO_ok I h1
    refine orK h2 (fun h2 => ?_) fun h2 => ?_
    · refine bindK h2 fun l h3 h4 => ?_
      refine iteK h4 fun c1 h4 => ?_
      injection h4 with h4
      rw [← h4]
      exact sat_tuple (allSc_eq h3 ▸ ha) (of_decide_eq_true c1)
    · refine bindK h2 fun p h3 h4 => ?_
      refine bind2K h4 fun l b h5 h6 h7 => ?_
      injection h7 with h7
      rw [two_eq h3, asT_eq h5, asI_eq h6] at ha
      cases ha with | cons n1 s1 ha => cases ha with | cons n2 s2 ha =>
      cases ha
      rw [← h7]
      exact sat_norm n1 n2 s1 s2
  | Subscript o i pos => exact subV_ok po I h
  | Attribute o x pos => exact attrV_ok po I h
  | Call g es kw pos =>
    refine iteK h fun c1 h => ?_
    refine bindK h fun vs h1 h2 => ?_
    rw [List.isEmpty_iff.mp c1]
    exact callV_ok po I (mapO_ok I h1) h2
  | ListComp elt gens scope pos =>
    refine bindK h fun g h1 h2 => ?_
    refine mapK h2 fun l h3 h4 => ?_
    refine bindK h3 fun q h5 h6 => ?_
    obtain ⟨⟨c1, c2, c3, c4⟩, h6⟩ := ite_some h6
    refine bind2K h6 fun a items h7 h8 h9 => ?_
    obtain ⟨e, k⟩ := compGo_ok h9
    rw [one_eq h1, gen_eq h5 c4, ← h4, e]
    exact sat_comp c1 c2 c3 (I _ _ h7) h8 (fun i m => ifsV_ok TI (k i m).1) fun i m b => TI.e _ _ _ _ ((k i m).2 b)
  | _ => exact nomatch (show none = some v from h)
theorem stepT_ok (TI : EvsOk c d T) {e : Expr} {b : Bool} (h : stepT T sc ρ e = some b) : SatT c d sc ρ e b := by
  have I := TI.e sc ρ
  have J := TI.t sc ρ
  have D : plainTest e = true → (T.e sc ρ e).bind truth = some b → SatT c d sc ρ e b := fun c1 h => by
    refine bindK h fun a h1 h2 => ?_
    exact satT_plain c1 (I _ _ h1) h2
  cases e with
  | Compare l ops rs pos =>
    refine bind2K h fun op r h1 h2 h3 => ?_
    refine iteK h3 fun c1 h3 => ?_
    refine bind2K h3 fun a k h4 h5 h6 => ?_
    rw [one_eq h1, one_eq h2]
    exact satT_cmp (I _ _ h4) (I _ _ h5) h6 c1
  | BoolOp op es pos =>
    refine bind2K h fun p a h1 h2 h3 => ?_
    rw [two_eq h1]
    cases op with
    | And =>
      cases a with
      | true => exact satT_and (J _ _ h2) fun _ => J _ _ h3
      | false => injection h3 with h3; exact h3 ▸ satT_and (b := b) (J _ _ h2) fun q => nomatch q
    | Or =>
      cases a with
      | true => injection h3 with h3; exact h3 ▸ satT_or (b := b) (J _ _ h2) fun q => nomatch q
      | false => exact satT_or (J _ _ h2) fun _ => J _ _ h3
  | _ => first | exact nomatch (show none = some b from h) | exact D rfl h
theorem evs_ok (po : PmOk c d P) : ∀ n, EvsOk c d (evs P n)
  | 0 => ⟨fun _ _ _ _ h => (by cases h), fun _ _ _ _ h => (by cases h)⟩
  | n + 1 => ⟨fun _ _ _ _ h => stepE_ok po (evs_ok po n) h, fun _ _ _ _ h => stepT_ok (evs_ok po n) h⟩
end


/-! stores into targets -/
noncomputable def partsV (v : V) : Option (List V) :=
  (v.asS.bind fun x => if x.length ≤ 9999 then some ((chars x).map .sc) else none).or (match v with
    | .tup l => some (l.map .sc)
    | .norm l b => some [.tup l, .i b]
    | _ => none)
noncomputable def canStore (sc : Sc) (x : Str) : Bool := sc.lookup x == some .local || sc.lookup x == some .cell
theorem canStore_of {sc : Sc} {x : Str} (h : canStore sc x = true) : sc.lookup x = some .local ∨ sc.lookup x = some .cell := (Bool.or_eq_true_iff.mp h).imp beq_iff_eq.mp beq_iff_eq.mp
structure Rs where
  ρ : Rho
  ω : Rho
noncomputable def Rs.put (r : Rs) (x : Str) (v : V) : Rs := ⟨upd x v r.ρ, rem x r.ω⟩
noncomputable def putName (sc : Sc) (t : Expr) (v : V) (r : Rs) : Option Rs := (asName t).bind fun q => if canStore sc q.1 = true then some (r.put q.1 v) else none
noncomputable def putNames (sc : Sc) : List Expr → List V → Rs → Option Rs
  | [], [], r => some r
  | t :: ts, v :: vs, r => (putName sc t v r).bind (putNames sc ts vs)
  | _, _, _ => none
noncomputable def putT (sc : Sc) (t : Expr) (v : V) (r : Rs) : Option Rs :=
  (putName sc t v r).or ((asTup t).bind fun q => (partsV v).bind fun vs => putNames sc q.1 vs r)

section
variable {c : Cx} {d : Nat} {sc : Sc} {env : Env} {B : View} {hid : List Addr} {ads : List (Str × Addr)} {A : Around}
@[reducible] noncomputable def At1 (c : Cx) (d : Nat) (sc : Sc) (env : Env) (B : View) (hid : List Addr) (ads : List (Str × Addr)) (A : Around) (r : Rs) (h : Heap) : Prop := St c d sc env B hid r.ρ r.ω ads A h
variable {s : Shared} {E : Value → Shared → Prop} {r r' : Rs}

theorem putName_ok {t : Expr} {v : V} {mv : Value} {Q : Unit → Shared → Prop} (st : At1 c d sc env B hid ads A r s.heap) (h : putName sc t v r = some r') (rv : RelV c.C (vw s.heap (own env ads ++ hid)) v mv)
    (k : ∀ h' tk, At1 c d sc env B hid ads A r' h' → (∀ b o, vw s.heap (own env ads ++ hid) b o → vw h' (own env ads ++ hid) b o) → Q () { s with heap := h', toks := tk }) : wpAny (model c.prog c.w) A (assign t env mv) Q E s := by
  refine bindK h fun q h1 h2 => ?_
  refine iteK h2 fun c1 h2 => ?_
  injection h2 with h2
  rw [asName_eq h1]
  subst h2
  exact wpAny_assign_Name (st.store (canStore_of c1) rv k)
theorem putNames_shape (env : Env) : ∀ {ts : List Expr} {vs : List V} {r : Rs}, putNames sc ts vs r = some r' → ts.length = vs.length ∧ assignEach ts env = ts.map (fun t => (false, assign t env)) := by
  intro ts
  induction ts with
  | nil => intro vs r h; cases vs with
    | nil => exact ⟨rfl, rfl⟩
    | cons _ _ => injection h
  | cons t ts ih => intro vs r h; cases vs with
    | nil => injection h
    | cons v vs =>
      refine bindK h fun r₁ h1 h2 => ?_
      refine bindK h1 fun q h3 _ => ?_
      obtain ⟨e1, e2⟩ := ih h2
      rw [asName_eq h3]
      exact ⟨congrArg (· + 1) e1, congrArg _ e2⟩
theorem putNames_ok : ∀ {ts : List Expr} {vs : List V} {ms : List Value} {r : Rs} {s : Shared} {Q : Unit → Shared → Prop}, At1 c d sc env B hid ads A r s.heap → putNames sc ts vs r = some r' → Both (RelV c.C (vw s.heap (own env ads ++ hid))) vs ms →
    (∀ h' tk, At1 c d sc env B hid ads A r' h' → Q () { s with heap := h', toks := tk }) → wpAny (model c.prog c.w) A (assignInOrder (ts.map fun t => assign t env) ms) Q E s := by
  intro ts
  induction ts with
  | nil =>
    intro vs ms r s Q st h rv k
    cases rv with
    | nil => injection h with h; subst h; exact wpAny_pure (k s.heap s.toks st)
    | cons _ _ => injection h
  | cons t ts ih =>
    intro vs ms r s Q st h rv k
    cases rv with
    | nil => injection h
    | @cons v m vs ms r1 r2 =>
      refine bindK h fun r₁ h1 h2 => ?_
      exact wpAny_bind (wpAny_holding (putName_ok st h1 r1 fun h' tk st' kk => ih st' h2 (both_imp r2 fun _ _ r => r.mono kk) k))

/-- what an iterable hands out -/
theorem draw_ok {prog : Program} {w : World} {I : Addr} {fp wr : List Addr} {n : Nat} {P : Nat → Value → Prop} {Sti : Nat → Heap → Prop} (W : Walks prog w A I fp wr n P Sti) : ∀ (k i : Nat) (s : Shared) (Q : List Value → Shared → Prop), i + k = n → Sti i s.heap →
    (∀ ms h' tk, ms.length = k → (∀ j m, ms[j]? = some m → P (i + j) m) → Sti n h' → But wr s.heap h' → Q ms { s with heap := h', toks := tk }) → wpAny (model prog w) A (draw (.ref I) k) Q E s := by
  intro k
  induction k with
  | zero => intro i s Q hi st h; exact wpAny_pure (h [] s.heap s.toks rfl (fun _ _ e => nomatch e) (by rw [← hi]; exact st) fun _ _ _ e => e)
  | succ k ih =>
    intro i s Q hi st h
    refine wpAny_bind (W.item i s _ _ (by omega) st fun v h₁ tk₁ p st₁ b₁ => wpAny_bind (wpAny_holding (ih (i + 1) _ _ (by omega) st₁ fun ms h₂ tk₂ hl hp st₂ b₂ => wpAny_pure ?_)))
    refine h (v :: ms) h₂ tk₂ (congrArg (· + 1) hl) (fun j m e => ?_) st₂ fun b o nb e => b₂ b o nb (b₁ b o nb e)
    cases j with
    | zero => injection e with e; exact e ▸ p
    | succ j => have := hp j m e; rwa [Nat.add_right_comm, Nat.add_assoc] at this
theorem ite_ok {α : Type} {M : Model} {p : Prop} [Decidable p] {a b : Sem α} {Q : α → Shared → Prop} (h : ¬p) (k : wpAny M A b Q E s) : wpAny M A (if p then a else b) Q E s := by rw [if_neg h]; exact k
theorem unpack_str {prog : Program} {w : World} {x : Str} {t : Tok} {Q : List Value → Shared → Prop} (hh : A.handled = none)
    (k : ∀ ms s', Keeps s s' → RelL (chars x) ms → Q ms s') : wpAny (model prog w) A (unpackItems (.str x t) x.cps.size none) Q E s :=
  wpAny_bind (m := notIterableAtAll _) (wpAny_bind (wpAny_specialOf (typeIs_str s x t) F.slot_str_iter.lookup (wpAny_pure (wpAny_bind (wpAny_holding (wpAny_pyIter_str fun o Sti W st =>
    wpAny_bind (wpAny_holding (draw_ok (W A hh) x.cps.size 0 _ _ (Nat.zero_add _) st fun ms h₁ tk₁ hm hp st₁ b₁ => ite_ok (Nat.not_lt.mpr (Nat.le_of_eq hm.symm)) (wpAny_bind (wpAny_holding ((W A hh).done _ _ _ st₁ fun h₂ tk₂ b₂ => wpAny_pure (by
      have nI : ∀ b o', s.heap.get? b = some o' → b ∉ [s.heap.objs.size] := fun b o' e m => Nat.lt_irrefl _ (List.mem_singleton.mp m ▸ Heap.lt_size e)
      refine k ms _ ⟨h₂, tk₂, rfl, fun b o' e => b₂ b o' (nI b o' e) (b₁ b o' (nI b o' e) (Heap.get?_push_of_some _ e))⟩ (List.ext_getElem? fun j => ?_)
      rw [List.getElem?_map, List.getElem?_map]
      cases e : ms[j]? with
      | none => rw [List.getElem?_eq_none ((chars_length x).trans hm.symm ▸ List.getElem?_eq_none_iff.mp e)]; rfl
      | some m =>
        obtain ⟨q, u, e1, rfl⟩ := hp j m e
        rw [Nat.zero_add] at e1
        rw [chars_get e1]; rfl))))))))))))
theorem unpack_ok {v : V} {mv : Value} {vs : List V} {W : View} {Q : List Value → Shared → Prop} (h : partsV v = some vs) (hh : A.handled = none) (hW : ∀ b o, W b o → s.heap.get? b = some o) (r : RelV c.C W v mv)
    (k : ∀ ms s', Keeps s s' → Both (RelV c.C W) vs ms → Q ms s') : wpAny (model c.prog c.w) A (unpackItems mv vs.length none) Q E s := by
  have tup : ∀ {a ms n}, mv = .ref a → W a (tupO ms n) → ms.length = vs.length → Both (RelV c.C W) vs ms → wpAny (model c.prog c.w) A (unpackItems mv vs.length none) Q E s := fun {a ms n} e w l b => by
    rw [e, ← l]
    exact wpAny_unpackItems_tuple hh ⟨_, hW _ _ w, rfl, n, rfl⟩ fun h' kb => k ms _ (keeps_heap s.toks fun b o e => kb b o (fun q => Nat.lt_irrefl _ (q ▸ Heap.lt_size e)) e) b
  refine orK h (fun h => ?_) fun h => ?_
  · refine bindK h fun x h1 h2 => ?_
    refine iteK h2 fun c1 h2 => ?_
    injection h2 with h2
    obtain ⟨t, rfl⟩ := asS_rel h1 r
    rw [← h2, show (List.map V.sc (chars x)).length = x.cps.size from (List.length_map ..).trans (chars_length x)]
    exact unpack_str hh fun ms s' kp rl => k ms s' kp (h2 ▸ scas' rl)
  · cases v with
    | tup l =>
      injection h with h
      obtain ⟨a, ms, n, e, w, rl⟩ := r
      exact tup e w (h ▸ rl.length.trans (List.length_map ..).symm) (h ▸ scas' rl)
    | norm l b =>
      injection h with h
      obtain ⟨a, q, t, n, e, w, rl⟩ := r
      exact tup e w (h ▸ rfl) (h ▸ .cons rl (.cons rfl .nil))
    | _ => injection h

theorem putT_ok {t : Expr} {v : V} {mv : Value} {Q : Unit → Shared → Prop} (st : At1 c d sc env B hid ads A r s.heap) (h : putT sc t v r = some r') (rv : RelV c.C (vw s.heap (own env ads ++ hid)) v mv)
    (k : ∀ h' tk, At1 c d sc env B hid ads A r' h' → Q () { s with heap := h', toks := tk }) : wpAny (model c.prog c.w) A (assign t env mv) Q E s := by
  refine orK h (fun h => putName_ok st h rv fun h' tk st' _ => k h' tk st') fun h => ?_
  refine bind2K h fun q vs h1 h2 h3 => ?_
  obtain ⟨e1, e2⟩ := putNames_shape env h3
  rw [asTup_eq h1, arm_assign_Tuple]
  refine wpAny_bind (wpAny_standAt ?_)
  unfold unpack
  rw [e2, List.length_map, e1, List.map_map]
  have e3 : (q.1.map fun t => (false, assign t env)).findIdx? (·.1) = none := List.findIdx?_eq_none_iff.mpr fun x m => by obtain ⟨_, _, rfl⟩ := List.mem_map.mp m; rfl
  rw [e3]
  refine wpAny_bind (wpAny_holding (unpack_ok h2 st.fr.R.hh (fun _ _ w => w.1) rv fun ms s' kp b => ?_))
  obtain ⟨h₁, tk₁, rfl, g⟩ := kp
  exact putNames_ok (st.grows g) h3 (both_imp b fun _ _ r => r.mono (vw_grows g)) k
end


/-! what a statement does, reckoned -/
set_option genCtorIdx false in
inductive Out where
  | next (r : Rs) | brk (r : Rs) | ret (v : V)
noncomputable def Post (c : Cx) (d : Nat) (sc : Sc) (env : Env) (B : View) (hid : List Addr) (A : Around) : Out → Flow → Heap → Prop
  | .next r, f, h => f = .next ∧ ∃ ads, At1 c d sc env B hid ads A r h
  | .brk r, f, h => f = .brk ∧ ∃ ads, At1 c d sc env B hid ads A r h
  | .ret v, f, h => ∃ mv, f = .ret mv ∧ (∀ b o, B b o → h.get? b = some o) ∧ RelV c.C (vw h hid) v mv
noncomputable def Sh (s s' : Shared) : Prop := ∃ h' tk, s' = { s with heap := h', toks := tk }
theorem Sh.refl (s : Shared) : Sh s s := ⟨s.heap, s.toks, rfl⟩
theorem Sh.to {s s' : Shared} (a : Sh s s') (h : Heap) (k : Nat) : Sh s { s' with heap := h, toks := k } := by obtain ⟨_, _, rfl⟩ := a; exact ⟨h, k, rfl⟩
theorem Sh.trans {s s' s'' : Shared} (a : Sh s s') (b : Sh s' s'') : Sh s s'' := by obtain ⟨h, k, rfl⟩ := b; exact a.to h k
theorem Sh.keeps {s s' : Shared} (a : Keeps s s') : Sh s s' := by obtain ⟨h, k, rfl, _⟩ := a; exact ⟨h, k, rfl⟩
/-- a run's outcome -/
noncomputable def SatR (c : Cx) (d : Nat) (sc : Sc) (r : Rs) (run : Env → Sem Flow) (o : Out) : Prop :=
  ∀ (A : Around) (env : Env) (B : View) (hid : List Addr) (ads : List (Str × Addr)) (s : Shared) (Q : Flow → Shared → Prop) (E : Value → Shared → Prop), At1 c d sc env B hid ads A r s.heap →
    (∀ f s', Sh s s' → Post c d sc env B hid A o f s'.heap → Q f s') → wpAny (model c.prog c.w) A (run env) Q E s

noncomputable def fz1 (sc : Sc) (r : Rs) (x : Str) : Rs := match r.ω.lookup x with
  | some v => if isVar sc x = true then r.put x v else r
  | none => r
noncomputable def argNames (e : Expr) : List Str := (asCall e).toList.flatMap fun q => q.2.1.filterMap fun e => (asName e).map (·.1)
noncomputable def tops (e : Expr) : List Str := match view e with
  | .name x _ => [x]
  | .bin l _ _ _ => (asName l).toList.map (·.1)
  | .tup es _ _ => es.flatMap argNames
  | _ => argNames e
noncomputable def fz (sc : Sc) (e : Expr) (r : Rs) : Rs := (tops e).foldl (fz1 sc) r
section
variable {c : Cx} {d : Nat} {sc : Sc} {env : Env} {B : View} {hid : List Addr} {A : Around} {h : Heap} {r : Rs}
theorem fz1_ok {ads} (st : At1 c d sc env B hid ads A r h) (x : Str) : ∃ ads, At1 c d sc env B hid ads A (fz1 sc r x) h := by
  unfold fz1
  cases e : r.ω.lookup x with
  | none => exact ⟨ads, st⟩
  | some v =>
    by_cases hk : isVar sc x = true
    · have := st.freeze hk e
      simp only [if_pos hk]
      exact this
    · simp only [if_neg hk]
      exact ⟨ads, st⟩
theorem fz_ok {ads} (st : At1 c d sc env B hid ads A r h) (e : Expr) : ∃ ads, At1 c d sc env B hid ads A (fz sc e r) h := by
  have : ∀ (l : List Str) (r : Rs), (∃ ads, At1 c d sc env B hid ads A r h) → ∃ ads, At1 c d sc env B hid ads A (l.foldl (fz1 sc) r) h := by
    intro l
    induction l with
    | nil => intro r a; exact a
    | cons x l ih => intro r a; exact ih _ (a.elim fun _ st => fz1_ok st x)
  exact this _ _ ⟨ads, st⟩
theorem St.out {c : Cx} {d sc env B hid ρ ω ads A h} (st : St c d sc env B hid ρ ω ads A h) {v : V} {mv : Value} (r : RelV c.C (vw h (own env ads ++ hid)) v mv) : RelV c.C (vw h hid) v mv := r.mono fun b o w => ⟨w.1, fun m => w.2 (List.mem_append_right _ m)⟩
end

section
variable {c : Cx} {d : Nat} {P : Pm} {T : Evs} {sc : Sc} {r r' : Rs}
/-- a value, settled -/
theorem val_ok (TI : EvsOk c d T) {e : Expr} {v : V} (h : T.e sc (fz sc e r).ρ e = some v) {A : Around} {env : Env} {B : View} {hid : List Addr} {ads : List (Str × Addr)} {s : Shared} {Q : Value → Shared → Prop} {E : Value → Shared → Prop}
    (st : At1 c d sc env B hid ads A r s.heap) (k : ∀ ads' mv s', Sh s s' → At1 c d sc env B hid ads' A (fz sc e r) s'.heap → RelV c.C (vw s'.heap (own env ads' ++ hid)) v mv → Q mv s') : wpAny (model c.prog c.w) A (eval e env) Q E s := by
  obtain ⟨ads', st'⟩ := fz_ok st e
  exact TI.e _ _ _ _ h A env s _ _ _ st'.atF fun mv s' kp rv => k ads' mv s' (Sh.keeps kp) (st'.grows (grow kp)) rv
/-- a number, text or truth, with all in sight -/
theorem look_ok (TI : EvsOk c d T) {e : Expr} {v : V} (h : T.e sc (r.ω ++ r.ρ) e = some v) {A : Around} {env : Env} {B : View} {hid : List Addr} {ads : List (Str × Addr)} {s : Shared} {Q : Value → Shared → Prop} {E : Value → Shared → Prop}
    (st : At1 c d sc env B hid ads A r s.heap) (k : ∀ mv s', Sh s s' → Grows s.heap s'.heap → At1 c d sc env B hid ads A r s'.heap → RelV c.C (vw s'.heap []) v mv → Q mv s') : wpAny (model c.prog c.w) A (eval e env) Q E s :=
  TI.e _ _ _ _ h A env s _ _ _ st.atAll fun mv s' kp rv => k mv s' (Sh.keeps kp) (grow kp) (st.grows (grow kp)) rv

noncomputable def genA (T : Evs) (sc : Sc) (r : Rs) (t e : Expr) : Option Rs :=
  if notComp e = true ∧ ((asName t).isSome = true ∨ (asTup t).isSome = true ∧ (asAttr e).isSome = true) then (T.e sc (fz sc e r).ρ e).bind fun v => putT sc t v (fz sc e r) else none
theorem genA_ok (TI : EvsOk c d T) {t e : Expr} {pos : Pos} (h : genA T sc r t e = some r') : SatR c d sc r (exec (.Assign [t] e pos)) (.next r') := fun A env B hid ads s Q E st k => by
  refine iteK h fun c1 h => ?_
  refine bindK h fun v h1 h2 => ?_
  have hw : swappedStores [t] e env = pure none := by
    rcases c1.2 with q | q
    · obtain ⟨q, e1⟩ := Option.isSome_iff_exists.mp q
      rw [asName_eq e1]; rfl
    · obtain ⟨_, e1⟩ := Option.isSome_iff_exists.mp q.1
      obtain ⟨_, e2⟩ := Option.isSome_iff_exists.mp q.2
      rw [asTup_eq e1, asAttr_eq e2]; rfl
  have ha : (assignEach [t] env).map (·.2) = [assign t env] := by
    refine bindK (show (putT sc t v (fz sc e r)).bind some = some r' by rw [h2]; rfl) fun _ _ _ => ?_
    refine orK h2 (fun q => bindK q fun q e1 _ => ?_) fun q => bindK q fun q e1 _ => ?_
    · rw [asName_eq e1]; rfl
    · rw [asTup_eq e1]; rfl
  refine wpAny_Assign_stores (val_ok TI h1 st fun ads' mv s' sh st' rv => ?_) ((kinds e).swap c1.1 _ _ _) hw
  rw [ha]
  exact putT_ok st' h2 rv fun h' tk st'' => k _ _ (sh.to h' tk) ⟨rfl, ads', st''⟩

theorem IsL.of {h : Heap} {a : Addr} {vs : List Value} {n : Nat} (e : h.get? a = some (listO vs n)) : IsL h a vs.toArray n := e
theorem none_of_grows {h h' : Heap} (g : Grows h h') {b : Addr} (l : h'.objs.size ≤ b) : h.get? b = none := by
  cases e : h.get? b with
  | none => rfl
  | some o => exact absurd (Heap.lt_size (g _ _ e)) (Nat.not_lt.mpr l)
/-- a new list or table -/
noncomputable def newA (T : Evs) (sc : Sc) (r : Rs) (t e : Expr) : Option Rs :=
  (asName t).bind fun q => if canStore sc q.1 = true ∧ notComp e = true then
    ((T.e sc (scalars (r.ω ++ r.ρ)) e).bind fun v => v.asL.bind fun l => some ⟨rem q.1 r.ρ, upd q.1 (.list l) r.ω⟩).or
      ((asDict e).bind fun p => if p.1.isEmpty = true ∧ p.2.1.isEmpty = true then some ⟨rem q.1 r.ρ, upd q.1 (.ds [] []) r.ω⟩ else none) else none
theorem newA_ok (TI : EvsOk c d T) {t e : Expr} {pos : Pos} (h : newA T sc r t e = some r') : SatR c d sc r (exec (.Assign [t] e pos)) (.next r') := fun A env B hid ads s Q E st k => by
  refine bindK h fun q h0 h => ?_
  refine iteK h fun c1 h => ?_
  rw [asName_eq h0]
  refine wpAny_Assign_Name ?_ ((kinds e).swap c1.2 _ _ _)
  refine orK h (fun h => ?_) fun h => ?_
  · refine bind2K h fun v l h1 h2 h3 => ?_
    injection h3 with h3
    subst h3
    refine TI.e _ _ _ _ h1 A env s _ _ _ st.atNew fun mv s' kp rv => ?_
    obtain ⟨a, vs, n, rfl, w, rl⟩ := asL_rel h2 rv
    exact st.storeM (v := .list l) (canStore_of c1.1) (grow kp) (occ_none w.2) (fun W => ⟨vs, n, w.1, rl⟩) ⟨_, w.1⟩ fun h' tk st' => k _ _ ((Sh.keeps kp).to h' tk) ⟨rfl, _, st'⟩
  · refine bindK h fun p h1 h => ?_
    refine iteK h fun c2 h => ?_
    injection h with h
    subst h
    rw [asDict_eq h1, List.isEmpty_iff.mp c2.1, List.isEmpty_iff.mp c2.2]
    have e1 : (s.heap.push { cls := .type "dict", data := .dict #[] }).get? s.heap.objs.size = some { cls := .type "dict", data := .dict #[] } := Heap.get?_push_size _ rfl
    exact wpAny_Dict_empty (st.storeM (v := .ds [] []) (canStore_of c1.1) (push_grows s.heap _) (none_of (keeps_refl s) (Nat.le_refl _)) (fun W => ⟨_, [], e1, ⟨#[], 0, rfl, rfl, Nat.le_refl _, (fun _ m => nomatch (Array.not_mem_empty _ m)), fun _ => rfl⟩, rfl⟩) ⟨_, e1⟩ fun h' tk st' => k _ _ ⟨h', tk, rfl⟩ ⟨rfl, _, st'⟩)

/-- a list and another, anew -/
noncomputable def addA (T : Evs) (sc : Sc) (r : Rs) (t e : Expr) : Option Rs :=
  (asName t).bind fun q => (asBin e).bind fun b => (asName b.1).bind fun y => if (canStore sc q.1 = true ∧ isAdd b.2.1 = true) ∧ isVar sc y.1 = true ∧ okName y.1 = true then
    (r.ω.lookup y.1).bind fun v => v.asL.bind fun l1 => (T.e sc (r.ω ++ r.ρ) b.2.2.1).bind fun v2 => v2.asL.bind fun l2 => if l1.length + l2.length ≤ 9999 then some ⟨rem q.1 r.ρ, upd q.1 (.list (l1 ++ l2)) r.ω⟩ else none else none
theorem mut_list {ads : List (Str × Addr)} {A env B hid} {s : Shared} (st : At1 c d sc env B hid ads A r s.heap) {y : Str} {v : V} {l : List S} (hy : isVar sc y = true) (h : r.ω.lookup y = some v) (hl : v.asL = some l) :
    ∃ a vs n, (y, a) ∈ ads ∧ Holds env sc s.heap y (.ref a) ∧ s.heap.get? a = some (listO vs n) ∧ RelL l vs := by
  obtain ⟨a, m, p, q⟩ := st.mu _ _ hy h
  cases asL_eq hl
  obtain ⟨vs, n, e, rl⟩ := q
  exact ⟨a, vs, n, m, p, e, rl⟩
theorem addA_ok (TI : EvsOk c d T) {t e : Expr} {pos : Pos} (h : addA T sc r t e = some r') : SatR c d sc r (exec (.Assign [t] e pos)) (.next r') := fun A env B hid ads s Q E st k => by
  refine bind2K h fun q b h0 h1 h => ?_
  refine bindK h fun y h2 h => ?_
  refine iteK h fun c1 h => ?_
  refine bind2K h fun v1 l1 h3 h4 h => ?_
  refine bind2K h fun v2 l2 h5 h6 h => ?_
  refine iteK h fun c2 h => ?_
  injection h with h
  subst h
  rw [asName_eq h0, asBin_eq h1, asName_eq h2, isAdd_eq c1.1.2]
  obtain ⟨a, vs, n, ma, ha, ea, ra⟩ := mut_list st c1.2.1 h3 h4
  refine wpAny_Assign_Name (wpAny_BinOp (wpAny_Name (load_ok st.fr.ec ha (okName_of c1.2.2).2 (look_ok TI h5 st fun mv s' sh g st' rv => ?_)) (okName_of c1.2.2).1)) rfl
  obtain ⟨b, vs', n', rfl, w', rl⟩ := asL_rel h6 rv
  have e1 : (s'.heap.push (listO (vs ++ vs') 0)).get? s'.heap.objs.size = some (listO (vs ++ vs') 0) := Heap.get?_push_size _ rfl
  refine P.add_list (IsL.of (g a _ ea)) (IsL.of w'.1) ?_ ?_
  · rw [List.append_toArray]
    exact (st.storeM (s := { s' with heap := s'.heap.push (listO (vs ++ vs') 0) }) (v := .list (l1 ++ l2)) (canStore_of c1.1.1) (g.trans (push_grows s'.heap _)) (none_of_grows g (Nat.le_refl _)) (fun W => ⟨_, 0, e1, ra.append rl⟩) ⟨_, e1⟩ fun h' tk st' => k _ _ (sh.to h' tk) ⟨rfl, _, st'⟩)
  · rw [List.size_toArray, List.size_toArray, ra.length, rl.length]
    exact Nat.le_trans c2 (by decide)
end


/-! loops -/
section
variable {c : Cx} {d : Nat} {sc : Sc} {env : Env} {B : View} {hid : List Addr} {ads : List (Str × Addr)} {A : Around} {h h' : Heap} {ρ ω : Rho} {wr : List Addr}
/-- the ground of a state is turned -/
theorem Fr.turn {B' : View} {hid' : List Addr} (f : Fr c d sc env B hid ads A h) (tb : ∀ b o, c.H.get? b = some o → B' b o) (gb : ∀ b o, B' b o → h'.get? b = some o) (ho : ∀ a ∈ hid', ∃ o, h'.get? a = some o) (ap : ∀ a ∈ own env ads, (∀ o, ¬ B' a o) ∧ a ∉ hid')
    (ow : ∀ a ∈ own env ads, ∀ o, h.get? a = some o → h'.get? a = some o) : Fr c d sc env B' hid' ads A h' ∧ ∀ {y mv}, Holds env sc h y mv → Holds env sc h' y mv := by
  have sl : ∀ {a}, a ∈ slots env → a ∈ own env ads := List.mem_append_right _
  refine ⟨⟨f.R, ⟨f.ec.1, f.ec.2, f.ec.3, f.ec.4, fun b o e => gb b o (tb b o e), f.ec.6⟩, tb, gb, fun a m => (List.mem_append.mp m).elim (fun m => (f.ho a (List.mem_append_left _ m)).elim fun o e => ⟨o, ow a m o e⟩) (ho a), f.nd, ap,
    f.ns.elim fun m n => ⟨m, n.at' (ow _ (sl (List.mem_cons_self ..)))⟩, fun p m => (f.cl p m).elim fun v i => ⟨v, cell_at i (ow _ (sl (List.mem_cons_of_mem _ (List.mem_map_of_mem (f := (·.2)) (mem_of_lookup m)))))⟩⟩, fun e => ?_⟩
  rcases e with ⟨k, m, n, e⟩ | ⟨k, a, l, i⟩
  · exact .inl ⟨k, m, n.at' (ow _ (sl (List.mem_cons_self ..))), e⟩
  · exact .inr ⟨k, a, l, cell_at i (ow _ (sl (List.mem_cons_of_mem _ (List.mem_map_of_mem (f := (·.2)) (mem_of_lookup l)))))⟩
theorem St.turn {B' : View} {hid' : List Addr} (st : St c d sc env B hid ρ ω ads A h) (tb : ∀ b o, c.H.get? b = some o → B' b o) (gb : ∀ b o, B' b o → h'.get? b = some o) (ho : ∀ a ∈ hid', ∃ o, h'.get? a = some o) (ap : ∀ a ∈ own env ads, (∀ o, ¬ B' a o) ∧ a ∉ hid')
    (ow : ∀ a ∈ own env ads, ∀ o, h.get? a = some o → h'.get? a = some o) (kk : ∀ b o, vw h (own env ads ++ hid) b o → vw h' (own env ads ++ hid') b o) : St c d sc env B' hid' ρ ω ads A h' := by
  obtain ⟨f, hs⟩ := st.fr.turn tb gb ho ap ow
  refine ⟨f, fun x v k l => ?_, fun x v k l => ?_⟩
  · obtain ⟨mv, p, q⟩ := st.rd x v k l; exact ⟨mv, hs p, q.mono kk⟩
  · obtain ⟨a, m, p, q⟩ := st.mu x v k l; exact ⟨a, m, hs p, q.same kk (ow a (ads_own m))⟩
theorem St.hide (st : St c d sc env B hid ρ ω ads A h) (g : Grows h h') (hn : ∀ b ∈ wr, h.get? b = none) (lv : ∀ b ∈ wr, ∃ o, h'.get? b = some o) : St c d sc env B (wr ++ hid) ρ ω ads A h' := by
  have f := st.fr
  have no : ∀ b o, h.get? b = some o → b ∉ wr := fun b o e m => by rw [hn b m] at e; cases e
  refine st.turn f.tb (fun b o e => g b o (f.gb b o e)) (fun a m => (List.mem_append.mp m).elim (lv a) fun m => (f.ho a (List.mem_append_right _ m)).elim fun o e => ⟨o, g a o e⟩)
    (fun a m => ⟨(f.ap a m).1, fun q => (List.mem_append.mp q).elim (fun q => (f.ho a (List.mem_append_left _ m)).elim fun o e => no a o e q) (f.ap a m).2⟩) (fun a _ o e => g a o e)
    fun b o w => ⟨g b o w.1, fun m => (List.mem_append.mp m).elim (fun m => w.2 (List.mem_append_left _ m)) fun m => (List.mem_append.mp m).elim (no b o w.1) fun m => w.2 (List.mem_append_right _ m)⟩
theorem St.unhide (st : St c d sc env B (wr ++ hid) ρ ω ads A h) : St c d sc env B hid ρ ω ads A h :=
  st.turn st.fr.tb st.fr.gb (fun a m => st.fr.ho a (List.mem_append_right _ (List.mem_append_right _ m))) (fun a m => ⟨(st.fr.ap a m).1, fun q => (st.fr.ap a m).2 (List.mem_append_right _ q)⟩) (fun _ _ _ e => e)
    fun b o w => ⟨w.1, fun m => w.2 ((List.mem_append.mp m).elim (List.mem_append_left _) fun m => List.mem_append_right _ (List.mem_append_right _ m))⟩
theorem St.iter (st : St c d sc env B (wr ++ hid) ρ ω ads A h) (b : But wr h h') (lv : ∀ b ∈ wr, ∃ o, h'.get? b = some o) (hB : ∀ b ∈ wr, ∀ o, ¬ B b o) : St c d sc env B (wr ++ hid) ρ ω ads A h' := by
  have f := st.fr
  have no : ∀ a ∈ own env ads, a ∉ wr := fun a m q => (f.ap a m).2 (List.mem_append_left _ q)
  refine st.turn f.tb (fun x o e => b x o (fun m => hB x m o e) (f.gb x o e)) (fun a m => ?_) f.ap (fun a m o e => b a o (no a m) e) fun x o w => ⟨b x o (fun m => w.2 (List.mem_append_right _ (List.mem_append_left _ m))) w.1, w.2⟩
  by_cases hw : a ∈ wr
  · exact lv a hw
  · exact (f.ho a (List.mem_append_right _ m)).elim fun o e => ⟨o, b a o hw e⟩
theorem St.fin (st : St c d sc env B (wr ++ hid) ρ ω ads A h) (b : But wr h h') (hB : ∀ b ∈ wr, ∀ o, ¬ B b o) (hw : ∀ a ∈ hid, a ∉ wr) : St c d sc env B hid ρ ω ads A h' := by
  have f := st.fr
  have no : ∀ a ∈ own env ads, a ∉ wr := fun a m q => (f.ap a m).2 (List.mem_append_left _ q)
  exact st.turn f.tb (fun x o e => b x o (fun m => hB x m o e) (f.gb x o e)) (fun a m => (f.ho a (List.mem_append_right _ (List.mem_append_right _ m))).elim fun o e => ⟨o, b a o (hw a m) e⟩) (fun a m => ⟨(f.ap a m).1, fun q => (f.ap a m).2 (List.mem_append_right _ q)⟩) (fun a m o e => b a o (no a m) e)
    fun x o w => ⟨b x o (fun m => w.2 (List.mem_append_right _ (List.mem_append_left _ m))) w.1, fun m => w.2 ((List.mem_append.mp m).elim (List.mem_append_left _) fun m => List.mem_append_right _ (List.mem_append_right _ m))⟩
/-- all but what is its own stays, from here on -/
theorem St.inner (st : St c d sc env B hid ρ ω ads A h) : St c d sc env (vw h (own env ads)) hid ρ ω ads A h :=
  st.turn (fun b o e => ⟨st.fr.gb b o (st.fr.tb b o e), fun m => (st.fr.ap b m).1 o (st.fr.tb b o e)⟩) (fun b o w => w.1) (fun a m => st.fr.ho a (List.mem_append_right _ m)) (fun a m => ⟨fun o w => w.2 m, (st.fr.ap a m).2⟩) (fun _ _ _ e => e) fun _ _ w => w
theorem St.outer {B' : View} (st : St c d sc env B' hid ρ ω ads A h) (tb : ∀ b o, c.H.get? b = some o → B b o) (k : ∀ b o, B b o → B' b o) : St c d sc env B hid ρ ω ads A h :=
  st.turn tb (fun b o w => st.fr.gb b o (k b o w)) (fun a m => st.fr.ho a (List.mem_append_right _ m)) (fun a m => ⟨fun o w => (st.fr.ap a m).1 o (k a o w), (st.fr.ap a m).2⟩) (fun _ _ _ e => e) fun _ _ w => w
end

noncomputable def Out.thru (f : Rs → Option Out) : Out → Option Out
  | .next r => f r
  | .brk r => some (.next r)
  | .ret v => some (.ret v)
noncomputable def whileGo (t : Rs → Option Bool) (body : Rs → Option Out) : Nat → Rs → Option Out
  | 0, _ => none
  | n + 1, r => (t r).bind fun b => if b = true then (body r).bind (Out.thru (whileGo t body n)) else some (.next r)
noncomputable def forGo (put : V → Rs → Option Rs) (body : Rs → Option Out) : List V → Rs → Option Out
  | [], r => some (.next r)
  | v :: vs, r => (put v r).bind fun r₁ => (body r₁).bind (Out.thru (forGo put body vs))

section
variable {c : Cx} {d : Nat} {P : Pm} {T : Evs} {sc : Sc} {r r' : Rs} {bd : List Stmt} {body : Rs → Option Out}
theorem test_ok (TI : EvsOk c d T) {e : Expr} {b : Bool} (h : T.t sc (r.ω ++ r.ρ) e = some b) {A : Around} {env : Env} {B : View} {hid : List Addr} {ads : List (Str × Addr)} {s : Shared} {Q : Bool → Shared → Prop} {E : Value → Shared → Prop}
    (st : At1 c d sc env B hid ads A r s.heap) (k : ∀ s', Sh s s' → At1 c d sc env B hid ads A r s'.heap → Q b s') : wpAny (model c.prog c.w) A (isTrue e env (eval e env)) Q E s :=
  TI.t _ _ _ _ h A env s _ _ _ st.atAll fun s' kp => k s' (Sh.keeps kp) (st.grows (grow kp))

theorem while_ok (TI : EvsOk c d T) {test : Expr} {pos : Pos} {n : Nat} {o : Out} (hb : ∀ r o, body r = some o → SatR c d sc r (execs bd) o) (h : whileGo (fun r => T.t sc (r.ω ++ r.ρ) test) body n r = some o) : SatR c d sc r (exec (.While test bd [] pos)) o := fun A env B hid ads s Q E st k => by
  refine wpAny_While (codeAny_whileLoop (fun n s' => Sh s s' ∧ ∃ r ads, At1 c d sc env B hid ads A r s'.heap ∧ whileGo (fun r => T.t sc (r.ω ++ r.ρ) test) body n r = some o) (fun n s₁ hI => ?_) n ⟨.refl s, r, ads, st, h⟩)
  obtain ⟨sh, r₁, ads₁, st₁, h⟩ := hI
  cases n with
  | zero => injection h
  | succ n =>
    refine bindK h fun b h1 h2 => ?_
    refine test_ok TI h1 st₁ fun s₂ sh₂ st₂ => ?_
    have sh₂ := sh.trans sh₂
    cases b with
    | false => injection h2 with h2; exact wpAny_execs_nil (k _ _ sh₂ (h2 ▸ ⟨rfl, ads₁, st₂⟩))
    | true =>
      refine bindK (show (body r₁).bind (Out.thru (whileGo (fun r => T.t sc (r.ω ++ r.ρ) test) body n)) = some o from h2) fun o' h3 h4 => ?_
      refine hb _ _ h3 A env B hid ads₁ s₂ _ _ st₂ fun f s₃ sh₃ p => ?_
      have sh₃ := sh₂.trans sh₃
      cases o' with
      | next r' => obtain ⟨rfl, ads', st'⟩ := p; exact ⟨n, Nat.lt_succ_self n, sh₃, r', ads', st', h4⟩
      | brk r' => obtain ⟨rfl, p⟩ := p; injection h4 with h4; exact k _ _ sh₃ (h4 ▸ ⟨rfl, p⟩)
      | ret v => obtain ⟨mv, rfl, p⟩ := p; injection h4 with h4; exact k _ _ sh₃ (h4 ▸ ⟨mv, rfl, p⟩)

theorem for_ok {target iter : Expr} {pos : Pos} {items : List V} {o : Out} (hs : notSet iter = true) (hb : ∀ r o, body r = some o → SatR c d sc r (execs bd) o) (hi : SatI c d sc (fz sc iter r).ρ target iter items) (h : forGo (putT sc target) body items (fz sc iter r) = some o) :
    SatR c d sc r (exec (.For target iter bd [] pos)) o := fun A env B hid ads s Q E st k => by
  obtain ⟨ads₀, st₀⟩ := fz_ok st iter
  refine wpAny_For (hi A env s _ _ _ st₀.atF fun I fp wr Sti s₁ kp L sti hf hw => ?_) ((kinds _).fold hs env)
  have nB : ∀ b ∈ wr, ∀ o, ¬ B b o := fun b m o e => by have := st₀.fr.gb b o e; rw [hw b m] at this; cases this
  refine codeAny_forLoop_any (fun n s' => Sh s s' ∧ ∃ i r ads, n + i = items.length ∧ At1 c d sc env B (wr ++ hid) ads A r s'.heap ∧ (∀ b ∈ fp, b ∉ own env ads) ∧ Sti i s'.heap ∧ forGo (putT sc target) body (items.drop i) r = some o) (fun n s₂ hI => ?_) items.length
    ⟨Sh.keeps kp, 0, _, ads₀, rfl, st₀.hide (grow kp) hw fun b m => L.live _ _ sti b (L.sub b m), fun b m q => (hf b m).1 (List.mem_append_left _ q), sti, h⟩
  obtain ⟨sh, i, r₁, ads₁, hn, st₁, hfo, sti, h⟩ := hI
  cases e : items[i]? with
  | none =>
    have hi : i = items.length := Nat.le_antisymm (hn ▸ Nat.le_add_left ..) (List.getElem?_eq_none_iff.mp e)
    rw [List.drop_of_length_le (Nat.le_of_eq hi.symm)] at h
    injection h with h
    exact L.done s₂ _ _ (hi ▸ sti) fun h' tk b => wpAny_execs_nil (k _ _ (sh.to h' tk) (h ▸ ⟨rfl, ads₁, st₁.fin b nB fun a m q => (st.fr.ho a (List.mem_append_right _ m)).elim fun o e => by rw [hw a q] at e; cases e⟩))
  | some x =>
    rw [List.drop_eq_getElem?_toList_append, e] at h
    refine bind2K (show ((putT sc target x r₁).bind fun r₂ => (body r₂).bind (Out.thru (forGo (putT sc target) body (items.drop (i + 1))))) = some o from h) fun r₂ o' h1 h2 h3 => ?_
    refine L.turn i x s₂ _ _ _ e sti st₁.fr.ho fun v s₃ go => go _ _ fun h' tk rv sti' b => ?_
    have st₂ := (st₁.iter b (fun a m => L.live _ _ sti' a (L.sub a m)) nB).inner
    refine putT_ok (s := { s₂ with heap := h', toks := tk }) st₂ h1 rv fun h'' tk' st₃ => hb _ _ h2 A env _ _ ads₁ _ _ _ st₃ fun f s₄ sh₄ p => ?_
    have sh₄ := ((sh.to h' tk).to h'' tk').trans sh₄
    have kB : ∀ b o, B b o → vw h' (own env ads₁) b o := fun a o q => ⟨b a o (fun m => nB a m o q) (st₁.fr.gb a o q), fun m => (st₁.fr.ap a m).1 o q⟩
    have kf : ∀ b ∈ fp, ∃ o, vw h' (own env ads₁) b o := fun a m => (L.live _ _ sti' a m).elim fun o q => ⟨o, q, hfo a m⟩
    have up : ∀ {r ads}, At1 c d sc env (vw h' (own env ads₁)) (wr ++ hid) ads A r s₄.heap → At1 c d sc env B (wr ++ hid) ads A r s₄.heap := fun st => st.outer st₁.fr.tb kB
    cases o' with
    | next r' =>
      obtain ⟨rfl, ads', st'⟩ := p
      cases n with
      | zero => exact absurd (List.getElem?_eq_some_iff.mp e).1 (by omega)
      | succ n => exact ⟨n, Nat.lt_succ_self n, sh₄, i + 1, r', ads', by omega, up st', fun a m q => (kf a m).elim fun o w => (st'.fr.ap a q).1 o w, L.frame _ _ _ sti' fun a m o q => st'.fr.gb a o ⟨q, hfo a m⟩, h3⟩
    | brk r' => obtain ⟨rfl, ads', st'⟩ := p; injection h3 with h3; exact k _ _ sh₄ (h3 ▸ ⟨rfl, ads', (up st').unhide⟩)
    | ret v => obtain ⟨mv, rfl, gb, rv⟩ := p; injection h3 with h3; exact k _ _ sh₄ (h3 ▸ ⟨mv, rfl, fun a o q => gb a o (kB a o q), rv.mono fun a o w => ⟨w.1, fun m => w.2 (List.mem_append_right _ m)⟩⟩)
end


/-! writes into one's own lists and tables -/
section
variable {c : Cx} {d : Nat} {P : Pm} {T : Evs} {sc : Sc} {r r' : Rs}
theorem upd_get {h : Heap} {a : Addr} {vs : List Value} {n : Nat} (e : h.get? a = some (listO vs n)) (f : Array Value → Array Value) : ∃ n', (h.update a (Obj.mapSeq f)).get? a = some { cls := .type "list", data := .seq (f vs.toArray) n' } :=
  ⟨_, IsL.update (IsL.of e) f⟩
theorem upd_but {h : Heap} {a : Addr} (f : Obj → Obj) : SameBut1 a h (h.update a f) := fun b o nb e => (Heap.get?_update_other h f fun q => nb q.symm).trans e
/-- a list is changed where it is -/
theorem change {ads : List (Str × Addr)} {A env B hid} {h : Heap} (st : At1 c d sc env B hid ads A r h) {y : Str} {a : Addr} {vs vs' : List Value} {l' : List S} {n : Nat} {f : Array Value → Array Value} (m : (y, a) ∈ ads) (hh : Holds env sc h y (.ref a))
    (e : h.get? a = some (listO vs n)) (hf : f vs.toArray = vs'.toArray) (rl : RelL l' vs') : At1 c d sc env B hid ads A ⟨r.ρ, upd y (.list l') r.ω⟩ (h.update a (Obj.mapSeq f)) := by
  obtain ⟨n', e'⟩ := upd_get e f
  rw [hf] at e'
  exact st.mutate m hh (upd_but _) ⟨_, e'⟩ ⟨vs', n', e', rl⟩

/-- one's own list's method is called -/
theorem own_meth {A : Around} {env : Env} {B : View} {hid : List Addr} {ads : List (Str × Addr)} {s : Shared} {Q : Value → Shared → Prop} {E : Value → Shared → Prop} {y name : Str} {id : String} {yp apos pos : Pos} {es : List Expr} {a : Addr} {vs : List Value} {n : Nat} (st : At1 c d sc env B hid ads A r s.heap)
    (sl : Slot "list" name id) (ty : typeOf (.builtin id) = pure (.type "method_descriptor")) (ho : okName y = true) (hh : Holds env sc s.heap y (.ref a)) (e : s.heap.get? a = some (listO vs n)) (hp : (backTo pos (starEach es env)).any (·.1) = false) (hlen : es.length < 29) (hline : (apos.endLine == pos.line) = true)
    (k : wpAny (model c.prog c.w) A (callWith pos (.builtin id) [.ref a] (backTo pos (starEach es env)) []) Q E s) : wpAny (model c.prog c.w) A (eval (.Call (.Attribute (.Name y yp) name apos) es [] pos) env) Q E s :=
  call_meth rfl hp hlen hline (wpAny_Name (load_ok st.fr.ec hh (okName_of ho).2 fun pl => getMethod_builtin ⟨_, e, rfl⟩ F.plainAttrs_list sl ty (fun b q => by injection q with q; exact q ▸ ⟨_, e, rfl⟩) k) (okName_of ho).1)

/-- a call of one's own list's method -/
structure Mc where
  y : Str
  l : List S
  es : List Expr
noncomputable def ownCall (sc : Sc) (r : Rs) (name : Str) (e : Expr) : Option Mc :=
  (asCall e).bind fun q => (asAttr q.1).bind fun a => (asName a.1).bind fun y => if (q.2.2.1.isEmpty = true ∧ q.2.1.length < 29) ∧ a.2.1 = name ∧ (a.2.2.endLine == q.2.2.2.line) = true ∧ isVar sc y.1 = true ∧ okName y.1 = true then
    (r.ω.lookup y.1).bind fun v => v.asL.map fun l => ⟨y.1, l, q.2.1⟩ else none
theorem ownCall_ok {name : Str} {id : String} {e : Expr} {m : Mc} (h : ownCall sc r name e = some m) (sl : Slot "list" name id) (ty : typeOf (.builtin id) = pure (.type "method_descriptor")) {A : Around} {env : Env} {B : View} {hid : List Addr} {ads : List (Str × Addr)} {s : Shared} {Q : Value → Shared → Prop} {E : Value → Shared → Prop}
    (st : At1 c d sc env B hid ads A r s.heap) (hp : ∀ pos, (backTo pos (starEach m.es env)).any (·.1) = false)
    (k : ∀ pos a vs n, (m.y, a) ∈ ads → Holds env sc s.heap m.y (.ref a) → s.heap.get? a = some (listO vs n) → RelL m.l vs → wpAny (model c.prog c.w) A (callWith pos (.builtin id) [.ref a] (backTo pos (starEach m.es env)) []) Q E s) : wpAny (model c.prog c.w) A (eval e env) Q E s := by
  refine bind2K h fun q a h1 h2 h => ?_
  refine bindK h fun y h3 h => ?_
  refine iteK h fun c1 h => ?_
  refine bindK h fun v h4 h => ?_
  refine mapK h fun l h5 h => ?_
  rw [asCall_eq h1, asAttr_eq h2, asName_eq h3, c1.2.1, List.isEmpty_iff.mp c1.1.1]
  subst h
  obtain ⟨b, vs, n, m, hh, e, rl⟩ := mut_list st c1.2.2.2.1 h4 h5
  exact own_meth st sl ty c1.2.2.2.2 hh e (hp _) c1.1.2 c1.2.2.1 (k _ b vs n m hh e rl)

theorem backTo_one {e : Expr} (h : notStar e = true) (pos : Pos) (env : Env) : backTo pos (starEach [e] env) = [(false, eval e env)] := by rw [(kinds e).star h]; rfl
theorem arr_len {vs : List Value} {l : List S} {k : Nat} (r : RelL l vs) (h : l.length + k ≤ 9999) : vs.toArray.size ≤ sizeLine := by rw [List.size_toArray, r.length]; exact Nat.le_trans (Nat.le_trans (Nat.le_add_right ..) h) (by decide)

/-- .. append, as a statement -/
noncomputable def appA (T : Evs) (sc : Sc) (r : Rs) (e : Expr) : Option Rs :=
  (ownCall sc r "append" e).bind fun m => (one m.es).bind fun a => if notStar a = true ∧ m.l.length + 1 ≤ 9999 then (T.e sc (r.ω ++ r.ρ) a).bind fun v => v.asSc.map fun x => ⟨r.ρ, upd m.y (.list (m.l ++ [x])) r.ω⟩ else none
theorem swaps_none {e : Expr} (h : notComp e = true) (l : Nat) (env : Env) : swapsWith e none l env = pure false := (kinds e).swap h _ _ _
theorem Expr_ok {e : Expr} {pos : Pos} {M : Model} {A : Around} {env : Env} {s : Shared} {Q : Flow → Shared → Prop} {E : Value → Shared → Prop} (hk : env.scope.kind = .function) (hc : notComp e = true) (h : wpAny M A (eval e env) (fun v s' => v = .none ∧ Q .next s') E s) : wpAny M A (exec (.Expr e pos) env) Q E s :=
  wpAny_Expr (wpAny_mono h (fun v s' q => by rw [q.1]; exact q.2) fun _ _ q => q) (by unfold interactive; rw [hk]; rfl) (swaps_none hc _ _)
theorem call_notComp {name : Str} {e : Expr} {m : Mc} (h : ownCall sc r name e = some m) : notComp e = true := bindK h fun q h1 _ => by rw [asCall_eq h1]; rfl
theorem appA_ok (TI : EvsOk c d T) {e : Expr} {pos : Pos} (h : appA T sc r e = some r') : SatR c d sc r (exec (.Expr e pos)) (.next r') := fun A env B hid ads s Q E st k => by
  refine bind2K h fun m a h1 h2 h => ?_
  refine iteK h fun c1 h => ?_
  refine bindK h fun v h3 h => ?_
  refine mapK h fun x h4 h => ?_
  subst h
  have e1 := one_eq h2
  refine Expr_ok st.fr.ec.kind (call_notComp h1) (ownCall_ok h1 F.slot_list_append F.type_list_append st (fun pos => by rw [e1, backTo_one c1.1]; rfl) fun pos a vs n m hh e rl => ?_)
  rw [e1, backTo_one c1.1]
  refine P.append_list (look_ok TI h3 st fun mv s' sh g st' rv => ⟨vs.toArray, n, arr_len rl c1.2, g _ _ e, rfl, ?_⟩)
  cases asSc_eq h4
  exact k _ _ (sh.to _ _) ⟨rfl, ads, change st' m (hh.grows g) (g _ _ e) (List.push_toArray vs mv) (rl.append (show RelL [x] [mv] from congrArg (· :: []) rv))⟩

/-- .. pop, as a name's value -/
noncomputable def popA (T : Evs) (sc : Sc) (r : Rs) (t e : Expr) : Option Rs :=
  (asName t).bind fun q => (ownCall sc r "pop" e).bind fun m => if canStore sc q.1 = true ∧ m.l.length + 0 ≤ 9999 then (one m.es).bind fun a => if notStar a = true then (T.e sc (r.ω ++ r.ρ) a).bind fun v => v.asI.bind fun i => if 0 ≤ i then
    (m.l[i.toNat]?).map fun x => (Rs.mk r.ρ (upd m.y (.list (m.l.eraseIdx i.toNat)) r.ω)).put q.1 (.sc x) else none else none else none
theorem RelL.erase {l vs} (r : RelL l vs) (k : Nat) : RelL (l.eraseIdx k) (vs.eraseIdx k) := by unfold RelL at r ⊢; rw [List.eraseIdx_eq_take_drop_succ, List.eraseIdx_eq_take_drop_succ, List.map_append, List.map_append, List.map_take, List.map_drop, List.map_take, List.map_drop, r]
theorem popA_ok (TI : EvsOk c d T) {t e : Expr} {pos : Pos} (h : popA T sc r t e = some r') : SatR c d sc r (exec (.Assign [t] e pos)) (.next r') := fun A env B hid ads s Q E st k => by
  refine bind2K h fun q m h0 h1 h => ?_
  refine iteK h fun c0 h => ?_
  refine bindK h fun a h2 h => ?_
  refine iteK h fun c1 h => ?_
  refine bind2K h fun v i h3 h4 h => ?_
  refine iteK h fun c2 h => ?_
  refine mapK h fun x h5 h => ?_
  subst h
  have e1 := one_eq h2
  rw [asName_eq h0]
  refine wpAny_Assign_Name (ownCall_ok h1 F.slot_list_pop F.type_list_pop st (fun pos => by rw [e1, backTo_one c1]; rfl) fun pos a vs n mm hh e rl => ?_) ((kinds e).swap (call_notComp h1) _ _ _)
  rw [e1, backTo_one c1]
  obtain ⟨y, e2, e3⟩ := rl.get h5
  have hlt := (List.getElem?_eq_some_iff.mp e2).1
  refine P.pop_at_list (look_ok TI h3 st fun mv s' sh g st' rv => ?_)
  obtain ⟨u, rfl⟩ := asI_rel h4 rv
  have hl9 : vs.length ≤ 9999 := Nat.le_trans (Nat.le_of_eq rl.length) c0.2
  refine ⟨vs.toArray, n, i, u, i.toNat, y, arr_len rl c0.2, rfl, g _ _ e, fitsIndex_of c2 (Int.lt_of_le_of_lt (show i ≤ 9999 by omega) (by decide)), ?_, by rw [List.getElem?_toArray]; exact e2, ?_⟩
  · unfold seqIndex?
    simp only [List.size_toArray]
    rw [if_neg (Int.not_lt.mpr c2), if_pos]
    rw [Bool.and_eq_true, decide_eq_true_eq, decide_eq_true_eq]
    exact ⟨c2, by omega⟩
  · have st₂ := change st' (f := fun xs => xs.eraseIdxIfInBounds i.toNat) mm (hh.grows g) (g _ _ e) (List.eraseIdxIfInBounds_toArray ..) (rl.erase i.toNat)
    exact st₂.store (s := { s' with heap := s'.heap.update a (Obj.mapSeq fun xs => xs.eraseIdxIfInBounds i.toNat) }) (canStore_of c0.1) (v := .sc x) e3 fun h' tk st₃ _ => k _ _ ((sh.to _ s'.toks).to h' tk) ⟨rfl, ads, st₃⟩
end


section
variable {c : Cx} {d : Nat} {P : Pm} {T : Evs} {sc : Sc} {r r' : Rs}
/-- what a table holds for the last of a list, taken off it, goes to another list -/
noncomputable def papA (sc : Sc) (r : Rs) (e : Expr) : Option Rs :=
  (ownCall sc r "append" e).bind fun m => (one m.es).bind fun a => (asSub a).bind fun q => (asName q.1).bind fun z => (ownCall sc r "pop" q.2.1).bind fun w =>
    if (notSlice q.2.1 = true ∧ m.l.length + 1 ≤ 9999) ∧ (w.es.isEmpty = true ∧ w.l.length + 0 ≤ 9999) ∧ (isVar sc z.1 = true ∧ okName z.1 = true) ∧ z.1 ≠ w.y ∧ m.y ≠ w.y then
      (r.ω.lookup z.1).bind fun tv => tv.asDs.bind fun p => (w.l[w.l.length - 1]?).bind fun k => (V.sc k).asI.bind fun j => (lookI p.1 p.2 j).map fun x => ⟨r.ρ, upd m.y (.list (m.l ++ [x])) (upd w.y (.list (w.l.eraseIdx (w.l.length - 1))) r.ω)⟩ else none
theorem papA_ok {e : Expr} {pos : Pos} (h : papA sc r e = some r') : SatR c d sc r (exec (.Expr e pos)) (.next r') := fun A env B hid ads s Q E st k => by
  refine bind2K h fun m a h1 h2 h => ?_
  refine bind2K h fun q z h3 h4 h => ?_
  refine bindK h fun w h5 h => ?_
  refine iteK h fun c1 h => ?_
  refine bind2K h fun tv p h6 h7 h => ?_
  refine bind2K h fun kS j h8 h9 h => ?_
  refine mapK h fun x h10 h => ?_
  subst h
  have e1 := one_eq h2
  have e3 := asSub_eq h3
  have e5 : w.es = [] := List.isEmpty_iff.mp c1.2.1.1
  have ns : notStar a = true := by rw [e3]; rfl
  refine Expr_ok st.fr.ec.kind (call_notComp h1) (ownCall_ok h1 F.slot_list_append F.type_list_append st (fun pos => by rw [e1, backTo_one ns]; rfl) fun pos a' vs n mm hh ea rl => ?_)
  rw [e1, backTo_one ns, e3, asName_eq h4]
  obtain ⟨az, mz, hz, rz⟩ := st.mu _ _ c1.2.2.1.1 h6
  refine P.append_list (Subscript_ (wpAny_Name (load_ok st.fr.ec hz (okName_of c1.2.2.1.2).2 (ownCall_ok h5 F.slot_list_pop F.type_list_pop st (fun pos => by rw [e5]; rfl) fun pos b vs' n' mb hb eb rb => ?_)) (okName_of c1.2.2.1.2).1))
  rw [e5]
  obtain ⟨y, e6, e7⟩ := rb.get h8
  have inj := fun {x y a} => @snd_inj x y a _ (List.nodup_append.mp st.fr.nd).1
  refine P.pop_list (y := y) (IsL.of eb) (by rw [List.size_toArray, List.getElem?_toArray, rb.length]; exact e6) ?_ (arr_len rb c1.2.1.2)
  have sb := upd_but (h := s.heap) (a := b) (Obj.mapSeq fun xs => xs.eraseIdxIfInBounds (vs'.toArray.size - 1))
  have st₂ := change st (l' := w.l.eraseIdx (w.l.length - 1)) (f := fun xs => xs.eraseIdxIfInBounds (vs'.toArray.size - 1)) mb hb eb (List.eraseIdxIfInBounds_toArray ..) (by rw [List.size_toArray, rb.length]; exact rb.erase _)
  cases asI_eq h9
  obtain ⟨t, rfl⟩ := sca_int e7
  cases asDs_eq h7
  have rz' := (rz.same (view_same (List.mem_append_left hid (ads_own (env := env) mb)) sb) (sb az · fun q => c1.2.2.2.1 (inj (q ▸ mz) mb))).freeze (W' := vw (s.heap.update b (Obj.mapSeq fun xs => xs.eraseIdxIfInBounds (vs'.toArray.size - 1))) []) (fun _ _ w => ⟨w.1, fun m => nomatch m⟩) fun o q => ⟨q, fun m => nomatch m⟩
  refine item_ok (a := .ds p.1 p.2) (v := .sc x) c1.1.1 (show ((lookI p.1 p.2 j).map V.sc).or none = some (.sc x) by rw [h10]; rfl) rz' fun mv s₃ kp rv => ?_
  have ea' := grow kp _ _ (sb a' _ (fun q => c1.2.2.2.2 (inj (q ▸ mm) mb)) ea)
  exact ⟨vs.toArray, n, arr_len rl c1.1.2, ea', rfl, k _ _ ((Sh.keeps kp |> (Sh.to (Sh.refl s) _ s.toks).trans).to _ _) ⟨rfl, ads, change (st₂.grows (grow kp)) mm ((hh.same st.fr (ads_slots st.fr mb) sb).grows (grow kp)) ea' (List.push_toArray vs mv) (rl.append (show RelL [x] [mv] from congrArg (· :: []) rv))⟩⟩

/-- an item is set -/
noncomputable def setL (T : Evs) (sc : Sc) (r : Rs) (t e : Expr) : Option Rs :=
  (asSub t).bind fun q => (asName q.1).bind fun y => if (isVar sc y.1 = true ∧ okName y.1 = true) ∧ notComp e = true then
    (r.ω.lookup y.1).bind fun tv => tv.asL.bind fun l => (T.e sc (r.ω ++ r.ρ) e).bind fun v => v.asSc.bind fun x => (T.e sc (r.ω ++ r.ρ) q.2.1).bind fun iv => iv.asI.bind fun j => if 0 ≤ j ∧ j < l.length ∧ l.length ≤ 9999 then some ⟨r.ρ, upd y.1 (.list (l.set j.toNat x)) r.ω⟩ else none else none
theorem setL_ok (TI : EvsOk c d T) {t e : Expr} {pos : Pos} (h : setL T sc r t e = some r') : SatR c d sc r (exec (.Assign [t] e pos)) (.next r') := fun A env B hid ads s Q E st k => by
  refine bind2K h fun q y h1 h2 h => ?_
  refine iteK h fun c1 h => ?_
  refine bind2K h fun tv l h3 h4 h => ?_
  refine bind2K h fun v x h5 h6 h => ?_
  refine bind2K h fun iv j h7 h8 h => ?_
  refine iteK h fun c2 h => ?_
  injection h with h
  subst h
  rw [asSub_eq h1, asName_eq h2]
  obtain ⟨a, vs, n, m, hh, ea, rl⟩ := mut_list st c1.1.1 h3 h4
  refine wpAny_Assign_Subscript (look_ok TI h5 st fun mv s₁ sh₁ g₁ st₁ r₁ => wpAny_Name (load_ok st₁.fr.ec (hh.grows g₁) (okName_of c1.1.2).2 (look_ok TI h7 st₁ fun iv' s₂ sh₂ g₂ st₂ r₂ => ?_)) (okName_of c1.1.2).1) ((kinds e).swap c1.2 _ _ _)
  obtain ⟨u, rfl⟩ := asI_rel h8 r₂
  have ea₂ := g₂ _ _ (g₁ _ _ ea)
  refine ki_setAt ea₂ c2.1 (Int.lt_of_lt_of_le c2.2.1 (Int.le_trans (Int.ofNat_le.mpr c2.2.2) (by decide))) (by rw [List.size_toArray, rl.length]; exact c2.2.1) ?_
  cases asSc_eq h6
  exact k _ _ ((sh₁.trans sh₂).to _ _) ⟨rfl, ads, change st₂ m ((hh.grows g₁).grows g₂) ea₂ (List.setIfInBounds_toArray ..) (show RelL _ _ by unfold RelL at rl ⊢; rw [List.map_set, List.map_set, rl]; exact congrArg _ r₁)⟩

noncomputable def storeD (t : V) (k : Int) (v : V) : Option V :=
  (t.asDs.bind fun p => if p.1.length < 900 then (v.asSc.map fun x => .ds (k :: p.1) (x :: p.2)).or (if p.1.isEmpty = true ∧ p.2.isEmpty = true then v.asW.map fun w => .dw [k] [w] else none) else none).or
    (t.asDw.bind fun p => if p.1.length < 900 then v.asW.map fun w => .dw (k :: p.1) (w :: p.2) else none)
theorem storeD_ok {C : Addr} {W : View} {h : Heap} {a : Addr} {t t' v : V} {k : Int} (hs : storeD t k v = some t') (rm : RelM C W h a t) : ∃ o ks vs, h.get? a = some o ∧ IntD o ks vs ∧ ks.length < 900 ∧
    ∀ (W' : View) h' o' mv, (∀ b o, W b o → W' b o) → RelV C W' v mv → h'.get? a = some o' → IntD o' (k :: ks) (mv :: vs) → RelM C W' h' a t' := by
  refine orK hs (fun hs => ?_) fun hs => ?_
  · refine bindK hs fun p h1 h2 => ?_
    refine iteK h2 fun c1 h2 => ?_
    cases asDs_eq h1
    obtain ⟨o, vs, e, i, r⟩ := rm
    refine ⟨o, p.1, vs, e, i, c1, fun W' h' o' mv kk rv e' i' => ?_⟩
    refine orK h2 (fun h2 => ?_) fun h2 => ?_
    · refine mapK h2 fun x h3 h4 => ?_
      subst h4
      cases asSc_eq h3
      exact ⟨o', mv :: vs, e', i', show RelL _ _ by unfold RelL; rw [List.map_cons, List.map_cons, r]; exact congrArg (· :: _) rv⟩
    · refine iteK h2 fun c2 h2 => ?_
      refine mapK h2 fun x h3 h4 => ?_
      subst h4
      cases asW_eq h3
      have e1 := List.isEmpty_iff.mp c2.1
      have e2 := List.isEmpty_iff.mp c2.2
      rw [e2] at r
      cases vs with
      | nil => rw [e1] at i'; exact ⟨o', _, e', i', .cons rv .nil⟩
      | cons _ _ => injection r
  · refine bindK hs fun p h1 h2 => ?_
    refine iteK h2 fun c1 h2 => ?_
    refine mapK h2 fun x h3 h4 => ?_
    subst h4
    cases asDw_eq h1
    cases asW_eq h3
    obtain ⟨o, vs, e, i, r⟩ := rm
    exact ⟨o, p.1, vs, e, i, c1, fun W' h' o' mv kk rv e' i' => ⟨o', mv :: vs, e', i', .cons rv (both_mono kk r)⟩⟩
noncomputable def setD (T : Evs) (sc : Sc) (r : Rs) (t e : Expr) : Option Rs :=
  (asSub t).bind fun q => (asName q.1).bind fun y => if (isVar sc y.1 = true ∧ okName y.1 = true) ∧ notComp e = true then
    (T.e sc (fz sc e r).ρ e).bind fun v => ((fz sc e r).ω.lookup y.1).bind fun tv => (T.e sc ((fz sc e r).ω ++ (fz sc e r).ρ) q.2.1).bind fun iv => iv.asI.bind fun j => (storeD tv j v).map fun t' => ⟨(fz sc e r).ρ, upd y.1 t' (fz sc e r).ω⟩ else none
theorem setD_ok (TI : EvsOk c d T) {t e : Expr} {pos : Pos} (h : setD T sc r t e = some r') : SatR c d sc r (exec (.Assign [t] e pos)) (.next r') := fun A env B hid ads s Q E st k => by
  refine bind2K h fun q y h1 h2 h => ?_
  refine iteK h fun c1 h => ?_
  refine bind2K h fun v tv h3 h4 h => ?_
  refine bind2K h fun iv j h5 h6 h => ?_
  refine mapK h fun t' h7 h => ?_
  subst h
  rw [asSub_eq h1, asName_eq h2]
  refine wpAny_Assign_Subscript (val_ok TI h3 st fun ads₁ mv s₁ sh₁ st₁ r₁ => ?_) ((kinds e).swap c1.2 _ _ _)
  obtain ⟨a, m, hh, rm⟩ := st₁.mu _ _ c1.1.1 h4
  refine wpAny_Name (load_ok st₁.fr.ec hh (okName_of c1.1.2).2 (look_ok TI h5 st₁ fun iv' s₂ sh₂ g₂ st₂ r₂ => ?_)) (okName_of c1.1.2).1
  obtain ⟨u, rfl⟩ := asI_rel h6 r₂
  obtain ⟨o, ks, vs, e, i, hl, fin⟩ := storeD_ok h7 (rm.same (vw_grows g₂) (g₂ a))
  refine wpAny_setItem_intMap_le (n := ks.length) (i.map e) (fun o₁ es ep e₁ d₁ => ?_) (Nat.le_trans (Nat.le_of_lt hl) (by decide)) fun h' hm hz sb => ?_
  · rw [e] at e₁
    injection e₁ with e₁
    obtain ⟨es', n', _, d₂, l₂, _⟩ := i.es
    rw [← e₁, d₂] at d₁
    injection d₁ with d₁
    exact d₁ ▸ l₂
  · have sb1 : SameBut1 a s₂.heap h' := fun b o nb e => (sb.2 b nb).trans e
    obtain ⟨o', es, ep, e', hc, hd, hk, hf⟩ := hm
    have kk := view_same (List.mem_append_left hid (ads_own (env := env) m)) sb1
    exact k _ _ ((sh₁.trans sh₂).to h' _) ⟨rfl, ads₁, st₂.mutate m (hh.grows g₂) sb1 ⟨o', e'⟩ (fin _ h' o' mv kk (r₁.mono fun b o w => kk b o (vw_grows g₂ b o w)) e' ⟨es, ep, hc, hd, hz o' es ep e' hd, hk, fun x => (hf x).trans (lookI_cons ..).symm⟩)⟩
end


theorem swapped_two {env : Env} {x y : Str} {px py p p' : Pos} {k k' : Nat} {e₁ e₂ : Expr} (bk : (env.blockKind != ScopeKind.function) = false) (kx : env.kindOf x = some .local) (ky : env.kindOf y = some .local) (hne : (x == y) = false) (hl : (py.line == px.line) = true)
    (n1 : notStar e₁ = true) (n2 : notStar e₂ = true) (ff : [e₁, e₂].all (foldedForSure 8) = false) (ca : [e₁, e₂].all (constantsAlone 8) = false) : swappedStores [.Tuple [.Name x px, .Name y py] k p] (.Tuple [e₁, e₂] k' p') env = pure (some [x, y]) := by
  have s1 : ∀ e, notStar e = true → PySem.swappedStores.match_5 (fun _ => Bool) e (fun _ _ => true) (fun _ => false) = false := fun e h => by cases e <;> first | rfl | exact nomatch (show false = true from h)
  have dd : [x, y].eraseDups.length = 2 := by
    rw [List.eraseDups_cons, List.filter_cons, if_pos (by rw [Bool.not_eq_true', beq_eq_false_iff_ne]; exact fun q => beq_eq_false_iff_ne.mp hne q.symm)]; rfl
  have l1 : (env.kindOf x == some NameKind.local && px.line == px.line) = true := by rw [kx, beq_self_eq_true, beq_self_eq_true]; rfl
  have l2 : (env.kindOf y == some NameKind.local && py.line == px.line) = true := by rw [ky, hl]; rfl
  have nm : ∀ F : Expr → Option Str, F (.Name x px) = some x → F (.Name y py) = some y → List.filterMap F [.Name x px, .Name y py] = [x, y] := fun F a b => by rw [List.filterMap_cons_some a, List.filterMap_cons_some b]; rfl
  have a1 : ([e₁, e₂].any fun e => PySem.swappedStores.match_5 (fun _ => Bool) e (fun _ _ => true) fun _ => false) = false := by rw [List.any_cons, List.any_cons, s1 _ n1, s1 _ n2]; rfl
  show (if (!(2 == 2 || 2 == 3) || 2 != 2 || env.blockKind != ScopeKind.function) = true then pure none else if _ = true then pure none else if (List.length _ != 2 || List.length (List.eraseDups _) != List.length _) = true then pure none else if _ = true then pure none else if _ = true then _ else pure (some _) : Sem (Option (List Str))) = _
  rw [bk, if_neg (by decide)]
  erw [a1]
  rw [nm _ ?_ ?_, if_neg Bool.false_ne_true, dd, if_neg (show ¬(([x, y].length != 2 || 2 != [x, y].length) = true) from Bool.false_ne_true), ff, if_neg Bool.false_ne_true, ca, if_neg Bool.false_ne_true]
  · exact if_pos l1
  · exact if_pos l2
section
variable {c : Cx} {d : Nat} {P : Pm} {T : Evs} {sc : Sc} {r r' : Rs}
/-- two names at once -/
noncomputable def swapA (T : Evs) (sc : Sc) (r : Rs) (t e : Expr) : Option Rs :=
  (asTup t).bind fun q => (two q.1).bind fun ts => (asName ts.1).bind fun x => (asName ts.2).bind fun y => (asTup e).bind fun p => (two p.1).bind fun es =>
    if (sc.lookup x.1 = some .local ∧ sc.lookup y.1 = some .local) ∧ (x.1 == y.1) = false ∧ (y.2.line == x.2.line) = true ∧ (notStar es.1 = true ∧ notStar es.2 = true) ∧ [es.1, es.2].all (foldedForSure 8) = false ∧ [es.1, es.2].all (constantsAlone 8) = false then
      (T.e sc (fz sc e r).ρ e).bind fun v => (partsV v).bind fun vs => (two vs).map fun v2 => ((fz sc e r).put y.1 v2.2).put x.1 v2.1 else none
theorem swapA_ok (TI : EvsOk c d T) {t e : Expr} {pos : Pos} (h : swapA T sc r t e = some r') : SatR c d sc r (exec (.Assign [t] e pos)) (.next r') := fun A env B hid ads s Q E st k => by
  refine bind2K h fun q ts h1 h2 h => ?_
  refine bind2K h fun x y h3 h4 h => ?_
  refine bind2K h fun p es h5 h6 h => ?_
  refine iteK h fun c1 h => ?_
  refine bind2K h fun v vs h7 h8 h => ?_
  refine mapK h fun v2 h9 h => ?_
  subst h
  have kx := (st.fr.ec.kindOf x.1).trans c1.1.1
  have ky := (st.fr.ec.kindOf y.1).trans c1.1.2
  have bk : (env.blockKind != ScopeKind.function) = false := by unfold Env.blockKind; rw [st.fr.ec.kind]; rfl
  have nb : notComp e = true := by rw [asTup_eq h5]; rfl
  have hw : swappedStores [t] e env = pure (some [x.1, y.1]) := by
    rw [asTup_eq h1, asTup_eq h5, two_eq h2, two_eq h6, asName_eq h3, asName_eq h4]
    exact swapped_two bk kx ky c1.2.1 c1.2.2.1 c1.2.2.2.1.1 c1.2.2.2.1.2 c1.2.2.2.2.1 c1.2.2.2.2.2
  rw [exec_Assign_arm]
  refine wpAny_bind (wpAny_standAt ?_)
  rw [show swapsWithSole [t] e pos.line env = pure false from (kinds e).swap nb _ _ _]
  refine wpAny_bind (wpAny_pure (ite_ok Bool.false_ne_true (wpAny_bind (val_ok TI h7 st fun ads' mv s' sh st' rv => wpAny_bind (wpAny_of_eq hw ?_)))))
  have h8' := unpack_ok (A := A) (E := E) (s := s') (Q := fun ms s'' => wpAny (model c.prog c.w) A (assignInOrder ([x.1, y.1].reverse.map fun n => bindName env n) ms.reverse) (fun _ => Q .next) E s'') h8 st.fr.R.hh (fun _ _ w => w.1) rv fun ms s₂ kp b => by
    have e2 := two_eq h9
    rw [e2] at b
    obtain ⟨m1, m2, rfl, r1, r2⟩ := both2 b
    have st₂ := st'.grows (grow kp)
    exact wpAny_bind (wpAny_holding (wpAny_bindName (st₂.store (.inl c1.1.2) (r2.mono (vw_grows (grow kp))) fun h' tk st₃ kk => wpAny_bind (wpAny_holding (wpAny_bindName (st₃.store (s := { s₂ with heap := h', toks := tk }) (.inl c1.1.1) ((r1.mono (vw_grows (grow kp))).mono kk) fun h'' tk' st₄ _ => wpAny_pure (k _ _ (((sh.trans (Sh.keeps kp)).to h' tk).to h'' tk') ⟨rfl, ads', st₄⟩)))))))
  rw [two_eq h9] at h8'
  exact wpAny_bind (wpAny_rule (wpAny_bind (wpAny_mono h8' (fun ms s'' w => wpAny_bind (wpAny_mono w (fun _ _ q => wpAny_pure q) fun _ _ q => q)) fun _ _ q => q)))

/-- three names, one value -/
noncomputable def chainA (T : Evs) (sc : Sc) (r : Rs) (ts : List Expr) (e : Expr) : Option Rs :=
  (three ts).bind fun q => (T.e sc r.ρ e).bind fun v => v.asSc.bind fun x => (putName sc q.1 (.sc x) r).bind fun r₁ => (putName sc q.2.1 (.sc x) r₁).bind fun r₂ => putName sc q.2.2 (.sc x) r₂
theorem three_eq {α : Type} {l : List α} {a} (h : three l = some a) : l = [a.1, a.2.1, a.2.2] := by
  cases l with
  | nil => injection h
  | cons x l => exact mapK h fun q h1 h2 => by rw [two_eq h1, ← h2]

/-- a name and a value -/
noncomputable def augA (T : Evs) (sc : Sc) (r : Rs) (t : Expr) (op : Operator) (e : Expr) : Option Rs :=
  (asName t).bind fun q => if (isAdd op = true ∧ okName q.1 = true) ∧ canStore sc q.1 = true then (r.ρ.lookup q.1).bind fun a => (T.e sc r.ρ e).bind fun b =>
    ((a.asI.bind fun x => b.asI.map fun y => r.put q.1 (.i (x + y))).or (a.asS.bind fun x => b.asS.bind fun y => if x.length + y.length ≤ 9999 then some (r.put q.1 (.s (x ++ y))) else none)) else none
theorem augA_ok (TI : EvsOk c d T) {t e : Expr} {op : Operator} {pos : Pos} (h : augA T sc r t op e = some r') : SatR c d sc r (exec (.AugAssign t op e pos)) (.next r') := fun A env B hid ads s Q E st k => by
  refine bindK h fun q h1 h => ?_
  refine iteK h fun c1 h => ?_
  refine bind2K h fun a b h2 h3 h => ?_
  rw [asName_eq h1, isAdd_eq c1.1.1]
  have hv : isVar sc q.1 = true := by unfold isVar; rcases canStore_of c1.2 with e | e <;> rw [e]
  obtain ⟨ma, ha, ra⟩ := st.rd _ _ hv h2
  refine wpAny_AugAssign_Name (load_ok st.fr.ec ha (okName_of c1.1.2).2 (TI.e _ _ _ _ h3 A env s _ _ _ st.atF fun mb s' kp rb => ?_))
  have st' := st.grows (grow kp)
  refine orK h (fun h => ?_) fun h => ?_
  · refine bindK h fun x h4 h => ?_
    refine mapK h fun y h5 h => ?_
    subst h
    obtain ⟨t1, rfl⟩ := asI_rel h4 ra
    obtain ⟨t2, rfl⟩ := asI_rel h5 rb
    exact P.iadd_int (st'.store (s := { s' with toks := s'.toks + 1 }) (canStore_of c1.2) (v := .i (x + y)) rfl fun h' tk st₂ _ => k _ _ ((Sh.keeps kp).to h' tk) ⟨rfl, ads, st₂⟩)
  · refine bind2K h fun x y h4 h5 h => ?_
    refine iteK h fun c2 h => ?_
    injection h with h
    subst h
    obtain ⟨t1, rfl⟩ := asS_rel h4 ra
    obtain ⟨t2, rfl⟩ := asS_rel h5 rb
    exact SB.iadd (fun t' kt => st'.store (s := { s' with toks := kt }) (canStore_of c1.2) (v := .s (x ++ y)) rfl fun h' tk st₂ _ => k _ _ ((Sh.keeps kp).to h' tk) ⟨rfl, ads, st₂⟩) (len2 c2)
end


section
variable {c : Cx} {d : Nat} {P : Pm} {T : Evs} {sc : Sc} {r r' : Rs}
theorem chainA_ok (TI : EvsOk c d T) {ts : List Expr} {e : Expr} {pos : Pos} (h : chainA T sc r ts e = some r') : SatR c d sc r (exec (.Assign ts e pos)) (.next r') := fun A env B hid ads s Q E st k => by
  refine bindK h fun q h0 h => ?_
  refine bind2K h fun v x h1 h2 h => ?_
  refine bind2K h fun r₁ r₂ h3 h4 h5 => ?_
  have nm : ∀ {t v r r'}, putName sc t v r = some r' → ∃ q, asName t = some q := fun h => bindK h fun q h _ => ⟨q, h⟩
  rw [three_eq h0]
  obtain ⟨q1, e1⟩ := nm h3
  obtain ⟨q2, e2⟩ := nm h4
  obtain ⟨q3, e3⟩ := nm h5
  obtain ⟨t₁, t₂, t₃⟩ := q
  have f1 : t₁ = _ := asName_eq e1
  have f2 : t₂ = _ := asName_eq e2
  have f3 : t₃ = _ := asName_eq e3
  subst f1 f2 f3
  refine wpAny_Assign_three (TI.e _ _ _ _ h1 A env s _ _ _ st.atF fun mv s' kp rv => ?_) rfl rfl
  cases asSc_eq h2
  exact putName_ok (st.grows (grow kp)) h3 rv fun h₁ k₁ st₁ _ => putName_ok (s := { s' with heap := h₁, toks := k₁ }) st₁ h4 rv fun h₂ k₂ st₂ _ => putName_ok (s := { s' with heap := h₂, toks := k₂ }) st₂ h5 rv fun h₃ k₃ st₃ _ => k _ _ ((Sh.keeps kp).to h₃ k₃) ⟨rfl, ads, st₃⟩

structure Lc where
  elt : Expr
  gens : List Comprehension
  scope : Scope
  pos : Pos
noncomputable def asComp : Expr → Option Lc
  | .ListComp a b c d => some ⟨a, b, c, d⟩
  | _ => none
theorem asComp_eq {e : Expr} {q} (h : asComp e = some q) : e = .ListComp q.elt q.gens q.scope q.pos := by
  cases e <;> first | (injection h with h; rw [← h]; done) | exact nomatch (show none = some q from h)
noncomputable def compA (T : Evs) (sc : Sc) (r : Rs) (t e : Expr) : Option Rs :=
  (asName t).bind fun y => (asComp e).bind fun q => (one q.gens).bind fun g => if sc.lookup y.1 = some .local ∧ (y.2.line == q.pos.line) = true ∧ (q.scope.names.any fun p => p.1 == y.1 && (p.2 == .local || p.2 == .cell)) = false then
    (compV T sc r.ρ q.elt g q.scope).map fun l => r.put y.1 (.list l) else none
theorem compA_ok (TI : EvsOk c d T) {t e : Expr} {pos : Pos} (h : compA T sc r t e = some r') : SatR c d sc r (exec (.Assign [t] e pos)) (.next r') := fun A env B hid ads s Q E st k => by
  refine bind2K h fun y q h1 h2 h => ?_
  refine bindK h fun g h3 h => ?_
  refine iteK h fun c1 h => ?_
  refine mapK h fun l h4 h => ?_
  refine bindK h4 fun x h5 h6 => ?_
  refine iteK h6 fun c2 h6 => ?_
  refine bind2K h6 fun v items h7 h8 h9 => ?_
  obtain ⟨el, kk⟩ := compGo_ok h9
  rw [asName_eq h1, asComp_eq h2, one_eq h3, gen_eq h5 c2.2.2.2]
  obtain ⟨m, hn⟩ := st.fr.ns
  refine assign_comp c2.1 c2.2.1 c2.2.2.1 (TI.e _ _ _ _ h7) h8 (fun i mi => ifsV_ok TI (kk i mi).1) (fun i mi b => TI.e _ _ _ _ ((kk i mi).2 b)) c1.1 c1.2.1 c1.2.2 st.atF (List.mem_append_left _ (List.mem_append_right _ (List.mem_cons_self ..))) hn fun D h' tk hn' sb rv => ?_
  obtain ⟨f, sh⟩ := st.fr.local c1.1 hn hn' sb
  subst h
  exact k _ _ ⟨h', tk, rfl⟩ ⟨rfl, ads, st.stored f sh (el ▸ rv)⟩

noncomputable def isNew (e : Expr) : Bool := e.ctorIdx == 24 || e.ctorIdx == 6 || ((asCall e).bind fun q => asName q.1).any fun q => q.1 == ("list" : Str)
noncomputable def assign1 (T : Evs) (sc : Sc) (r : Rs) (t e : Expr) : Option Rs :=
  (compA T sc r t e).or ((popA T sc r t e).or ((addA T sc r t e).or ((setL T sc r t e).or ((setD T sc r t e).or ((swapA T sc r t e).or ((if isNew e = true then newA T sc r t e else none).or (genA T sc r t e)))))))
theorem assign1_ok (TI : EvsOk c d T) {t e : Expr} {pos : Pos} (h : assign1 T sc r t e = some r') : SatR c d sc r (exec (.Assign [t] e pos)) (.next r') :=
  orK h (compA_ok TI) fun h => orK h (popA_ok TI) fun h => orK h (addA_ok TI) fun h => orK h (setL_ok TI) fun h => orK h (setD_ok TI) fun h => orK h (swapA_ok TI) fun h => orK h (fun h => iteK h fun _ h => newA_ok TI h) (genA_ok TI)

/-- what a loop walks over, reckoned -/
noncomputable def iterV (T : Evs) (sc : Sc) (ρ : Rho) (t e : Expr) : Option (List V) :=
  ((asCall e).bind fun q => (asName q.1).bind fun f => if (sc.lookup f.1 = some .globalImplicit ∧ okName f.1 = true) ∧ q.2.2.1.isEmpty = true then (mapO (T.e sc ρ) q.2.1).bind fun vs =>
    (if f.1 = "range" ∧ (asName t).isSome = true then (two vs).bind fun p => p.1.asI.bind fun a => p.2.asI.bind fun b => if -(2 ^ 62) ≤ a ∧ a < 2 ^ 62 ∧ -(2 ^ 62) ≤ b ∧ b < 2 ^ 62 then some ((rangeV a b).map .sc) else none else none).or
      (if f.1 = "enumerate" ∧ (asTup t).isSome = true then (one vs).bind fun v => v.asS.map fun x => enumV 0 (chars x) else none) else none).or
    ((T.e sc ρ e).bind fun v => if (asName t).isSome = true ∨ v.asS.isNone = true then (itemsV v).map fun l => l.map .sc else none)
theorem iterV_ok (po : PmOk c d P) (TI : EvsOk c d T) {ρ : Rho} {t e : Expr} {items : List V} (h : iterV T sc ρ t e = some items) : SatI c d sc ρ t e items := by
  refine orK h (fun h => ?_) fun h => ?_
  · refine bind2K h fun q f h1 h2 h => ?_
    refine iteK h fun c1 h => ?_
    refine bindK h fun vs h3 h => ?_
    have ha := mapO_ok (TI.e sc ρ) h3
    rw [asCall_eq h1, asName_eq h2, List.isEmpty_iff.mp c1.2]
    refine orK h (fun h => ?_) fun h => ?_
    · refine iteK h fun c2 h => ?_
      refine bindK h fun p h4 h => ?_
      refine bind2K h fun a b h5 h6 h => ?_
      refine iteK h fun c3 h => ?_
      injection h with h
      subst h
      obtain ⟨y, e1⟩ := Option.isSome_iff_exists.mp c2.2
      rw [two_eq h4, asI_eq h5, asI_eq h6] at ha
      rw [asName_eq e1]
      exact satI_range po.ok c1.1.1 c1.1.2 c2.1 ha c3
    · refine iteK h fun c2 h => ?_
      refine bindK h fun v h4 h => ?_
      refine mapK h fun x h5 h => ?_
      subst h
      obtain ⟨y, e1⟩ := Option.isSome_iff_exists.mp c2.2
      rw [one_eq h4, asS_eq h5] at ha
      rw [asTup_eq e1]
      exact satI_enum po.ok c1.1.1 c1.1.2 c2.1 ha
  · refine bindK h fun v h1 h => ?_
    refine iteK h fun c1 h => ?_
    refine mapK h fun l h2 h => ?_
    subst h
    exact satI_val (c1.imp (fun q => (Option.isSome_iff_exists.mp q).elim fun q e => ⟨_, _, asName_eq e⟩) Option.isNone_iff_eq_none.mp) (TI.e _ _ _ _ h1) h2

/-- one statement; X runs a block -/
noncomputable def stepS (T : Evs) (sc : Sc) (X : Rs → List Stmt → Option Out) (n : Nat) (r : Rs) : Stmt → Option Out
  | .Assign ts e _ => ((one ts).bind fun t => (assign1 T sc r t e).map .next).or ((chainA T sc r ts e).map .next)
  | .AugAssign t op e _ => (augA T sc r t op e).map .next
  | .Expr e _ => ((papA sc r e).or (appA T sc r e)).map .next
  | .If t a b _ => (T.t sc (r.ω ++ r.ρ) t).bind fun q => if q = true then X r a else X r b
  | .While t a b _ => if b.isEmpty = true then whileGo (fun r => T.t sc (r.ω ++ r.ρ) t) (fun r => X r a) n r else none
  | .For t i a b _ => if b.isEmpty = true ∧ notSet i = true then (iterV T sc (fz sc i r).ρ t i).bind fun items => forGo (putT sc t) (fun r => X r a) items (fz sc i r) else none
  | .Return (some e) _ => (T.e sc (fz sc e r).ρ e).map .ret
  | .Assert t _ _ => (T.t sc (r.ω ++ r.ρ) t).bind fun q => if q = true then some (.next r) else none
  | .Break _ => some (.brk r)
  | _ => none
theorem stepS_ok (po : PmOk c d P) (TI : EvsOk c d T) {X : Rs → List Stmt → Option Out} (hX : ∀ r b o, X r b = some o → SatR c d sc r (execs b) o) {n : Nat} {st : Stmt} {o : Out} (h : stepS T sc X n r st = some o) : SatR c d sc r (exec st) o := by
  cases st with
  | Assign ts e pos =>
    refine orK h (fun h => ?_) fun h => mapK h fun r' h1 h2 => h2 ▸ chainA_ok TI h1
    exact bindK h fun t h1 h => mapK h fun r' h2 h3 => by rw [one_eq h1, ← h3]; exact assign1_ok TI h2
  | AugAssign t op e pos => exact mapK h fun r' h1 h2 => h2 ▸ augA_ok TI h1
  | Expr e pos => exact mapK h fun r' h1 h2 => h2 ▸ orK h1 papA_ok (appA_ok TI)
  | «If» t a b pos =>
    refine bindK h fun q h1 h2 => fun A env B hid ads s Q E st k => wpAny_If (test_ok TI h1 st fun s' sh st' => ?_)
    cases q with
    | true => exact hX r a o h2 A env B hid ads s' Q E st' fun f s'' sh' => k f s'' (sh.trans sh')
    | false => exact hX r b o h2 A env B hid ads s' Q E st' fun f s'' sh' => k f s'' (sh.trans sh')
  | «While» t a b pos => exact iteK h fun c1 h => by rw [List.isEmpty_iff.mp c1]; exact while_ok TI (fun r o => hX r a o) h
  | For t i a b pos => exact iteK h fun c1 h => bindK h fun items h1 h2 => by rw [List.isEmpty_iff.mp c1.1]; exact for_ok c1.2 (fun r o => hX r a o) (iterV_ok po TI h1) h2
  | Return e pos =>
    cases e with
    | none => injection h
    | some e => exact mapK h fun v h1 h2 => fun A env B hid ads s Q E st k => wpAny_Return_some (val_ok TI h1 st fun ads' mv s' sh st' rv => k _ _ sh (h2 ▸ ⟨mv, rfl, st'.fr.gb, st'.out rv⟩))
  | Assert t m pos =>
    refine bindK h fun q h1 h2 => iteK h2 fun c1 h2 => fun A env B hid ads s Q E st k => wpAny_Assert_holds (test_ok TI h1 st fun s' sh st' => ⟨c1, k _ _ sh ?_⟩)
    injection h2 with h2
    exact h2 ▸ ⟨rfl, ads, st'⟩
  | Break pos => injection h with h; exact fun A env B hid ads s Q E st k => wpAny_Break (k _ _ (.refl s) (h ▸ ⟨rfl, ads, st⟩))
  | _ => exact nomatch (show none = some o from h)
noncomputable def run (P : Pm) (sc : Sc) : Nat → Rs → List Stmt → Option Out
  | 0, _, _ => none
  | n + 1, r, l => match l with
    | [] => some (.next r)
    | st :: rest => (stepS (evs P n) sc (run P sc n) n r st).bind fun o => match o with
      | .next r' => run P sc n r' rest
      | o => some o
theorem run_ok (po : PmOk c d P) : ∀ n {r : Rs} {l : List Stmt} {o : Out}, run P sc n r l = some o → SatR c d sc r (execs l) o := by
  intro n
  induction n with
  | zero => intro r l o h; injection h
  | succ n ih =>
    intro r l o h A env B hid ads s Q E st k
    cases l with
    | nil => injection h with h; exact wpAny_execs_nil (k _ _ (.refl s) (h ▸ ⟨rfl, ads, st⟩))
    | cons x rest =>
      refine bindK h fun o' h1 h2 => wpAny_execs_cons (stepS_ok po (evs_ok po n) (fun r b o => ih) h1 A env B hid ads s _ E st fun f s' sh p => ?_)
      cases o' with
      | next r' => obtain ⟨rfl, ads', st'⟩ := p; exact ih h2 A env B hid ads' s' Q E st' fun f s'' sh' => k f s'' (sh.trans sh')
      | brk r' => injection h2 with h2; have q := k f s' sh (h2 ▸ p); obtain ⟨rfl, _⟩ := p; exact q
      | ret v => injection h2 with h2; have q := k f s' sh (h2 ▸ p); obtain ⟨_, rfl, _⟩ := p; exact q
end


/-! a def is entered -/
structure DefIn (c : Cx) (f : Value) (ps : List Str) (body : List Stmt) (sc : Sc) : Prop where
  x : ∃ a o fd, f = .ref a ∧ c.K.lookup a = some o ∧ o.data = .func fd ∧ fd.body = .stmts body ∧ fd.scope.names = sc ∧ fd.closure = [] ∧ fd.globals = mainGlobals ∧ fd.builtins = builtinsNs ∧ codeIn c.K fd.code fd.qualname = true ∧
    fd.scope.isCoroutine = false ∧ fd.scope.isGenerator = false ∧ fd.scope.kind = .function ∧ ∀ ms, ms.length = ps.length → bindArgs fd ⟨ms, []⟩ = pure (ps.zip ms)
noncomputable def cellKeys (sc : Sc) : List Str := (cellsFrom 0 sc []).map (·.1)
/-- what of a def's names must hold -/
noncomputable def nameOk (sc : Sc) (ps : List Str) : Bool := ps.all (fun p => sc.lookup p == some .local || (sc.lookup p == some .cell && (cellKeys sc).contains p)) && sc.all (fun p => p.2 != .free && (p.2 != .cell || (cellKeys sc).contains p.1)) && decide ps.Nodup && decide (cellKeys sc).Nodup
theorem cells_keys : ∀ {sc : Sc} {n k : Nat} {acc acc' : List (Str × Addr)}, acc.map (·.1) = acc'.map (·.1) → (cellsFrom n sc acc).map (·.1) = (cellsFrom k sc acc').map (·.1) := by
  intro sc
  induction sc with
  | nil => intro n k acc acc' h; exact h
  | cons p sc ih =>
    intro n k acc acc' h
    obtain ⟨x, kd⟩ := p
    unfold cellsFrom
    by_cases hk : (kd == NameKind.cell) = true
    · rw [if_pos hk, if_pos hk]; exact ih (congrArg (x :: ·) h)
    · rw [if_neg hk, if_neg hk]; exact ih h
theorem lookup_key {l : List (Str × Addr)} (h : (l.map (·.1)).Nodup) {p : Str × Addr} (m : p ∈ l) : l.lookup p.1 = some p.2 := by
  refine lookup_all m fun q mq e => ?_
  induction l with
  | nil => exact nomatch m
  | cons z l ih =>
    obtain ⟨h1, h2⟩ := List.nodup_cons.mp h
    rcases List.mem_cons.mp m with m | m
    · rcases List.mem_cons.mp mq with mq | mq
      · rw [m, mq]
      · exact absurd (List.mem_map_of_mem (f := (·.1)) mq) (by rw [← m] at h1; exact e ▸ h1)
    · rcases List.mem_cons.mp mq with mq | mq
      · exact absurd (List.mem_map_of_mem (f := (·.1)) m) (by rw [← mq] at h1; exact e ▸ h1)
      · exact ih h2 m mq

section
variable {R : V → Value → Prop} {kd : Str → Option NameKind} {x : Str}
theorem bindL_skip : ∀ {ns : List Str} {ms : List Value} {m : Str → Option Value}, x ∉ ns → bindL kd (ns.zip ms) m x = m x := by
  intro ns
  induction ns with
  | nil => intro ms m _; rfl
  | cons n ns ih =>
    intro ms m hx
    cases ms with
    | nil => rfl
    | cons v ms =>
      have := ih (ms := ms) (m := if kd n = some .local then fun y => if y = n then some v else m y else m) (fun q => hx (List.mem_cons_of_mem _ q))
      refine Eq.trans this ?_
      by_cases hk : kd n = some .local
      · rw [if_pos hk]; exact if_neg (show ¬x = n from fun e => hx (e ▸ List.mem_cons_self ..))
      · rw [if_neg hk]
theorem bindC_skip : ∀ {ns : List Str} {ms : List Value} {m : Str → Option Value}, x ∉ ns → bindC kd (ns.zip ms) m x = m x := by
  intro ns
  induction ns with
  | nil => intro ms m _; rfl
  | cons n ns ih =>
    intro ms m hx
    cases ms with
    | nil => rfl
    | cons v ms =>
      have := ih (ms := ms) (m := if kd n = some .local then m else fun y => if y = n then some v else m y) (fun q => hx (List.mem_cons_of_mem _ q))
      refine Eq.trans this ?_
      by_cases hk : kd n = some .local
      · rw [if_pos hk]
      · rw [if_neg hk]; exact if_neg (show ¬x = n from fun e => hx (e ▸ List.mem_cons_self ..))
theorem bind_get {vs : List V} {ms : List Value} (r : Both R vs ms) : ∀ {ns : List Str} {v : V} {m m' : Str → Option Value}, ns.Nodup → (ns.zip vs).lookup x = some v →
    ∃ mv, R v mv ∧ (kd x = some .local → bindL kd (ns.zip ms) m x = some mv) ∧ (kd x ≠ some .local → bindC kd (ns.zip ms) m' x = some mv) := by
  induction r with
  | nil => intro ns v m m' _ h; rw [List.zip_nil_right] at h; injection h
  | @cons a b l ms r1 r2 ih =>
    intro ns v m m' nd h
    cases ns with
    | nil => injection h
    | cons n ns =>
      obtain ⟨h1, h2⟩ := List.nodup_cons.mp nd
      rw [List.zip_cons_cons, List.lookup_cons] at h
      by_cases e : x = n
      · rw [beq_iff_eq.mpr e] at h
        injection h with h
        subst e h
        refine ⟨b, r1, fun hk => ?_, fun hk => ?_⟩
        · exact (bindL_skip h1).trans (by rw [if_pos hk]; exact if_pos rfl)
        · exact (bindC_skip h1).trans (by rw [if_neg hk]; exact if_pos rfl)
      · rw [beq_eq_false_iff_ne.mpr e] at h
        exact ih h2 h
end

section
variable {c : Cx} {d : Nat} {P : Pm} {f : Value} {ps : List Str} {body : List Stmt} {sc : Sc}
theorem enter (ok : c.Ok) (D : DefIn c f ps body sc) (hn : nameOk sc ps = true) {A : Around} {s : Shared} {hid : List Addr} {vs : List V} {ms : List Value} {R : Result → Shared → Prop} (room : Room A (d + 1)) (g : Grows c.H s.heap) (ho : HidOk hid s.heap)
    (r : Both (RelV c.C (vw s.heap hid)) vs ms) (hl : vs.length = ps.length)
    (k : ∀ (env : Env) (s₁ : Shared) (E' : Value → Shared → Prop), Sh s s₁ → At1 c d sc env (vw s.heap []) hid [] (A.deeper env) ⟨ps.zip vs, []⟩ s₁.heap → wpAny (model c.prog c.w) (A.deeper env) (execs body env) (fun f s' => R (.ok (.ret (match f with | .ret v => v | _ => .none))) s') E' s₁) :
    codeAny (model c.prog c.w) A (.call f ⟨ms, []⟩) R s := by
  obtain ⟨a, o, fd, rfl, ha, hd, hb, hs, hc, hg, hbi, hcd, hco, hge, hk, hbd⟩ := D.x
  unfold nameOk at hn
  rw [Bool.and_eq_true, Bool.and_eq_true, Bool.and_eq_true, List.all_eq_true, List.all_eq_true, decide_eq_true_eq, decide_eq_true_eq] at hn
  obtain ⟨⟨⟨hp, hsc⟩, nd⟩, nk⟩ := hn
  have X := ok.KIn.keeps g
  have ke : ((cellsFrom (s.heap.objs.size + 1) sc []).map (·.1)) = cellKeys sc := cells_keys rfl
  have lk : ∀ {x}, (cellKeys sc).contains x = true → ∃ b, (cellsFrom (s.heap.objs.size + 1) sc []).lookup x = some b := fun h => by
    rw [← ke] at h nk
    obtain ⟨p, m, rfl⟩ := List.mem_map.mp (List.contains_iff_mem.mp h)
    exact ⟨_, lookup_key nk m⟩
  have lm : ms.length = ps.length := by
    rw [← hl]
    clear k hl hbd
    induction r with
    | nil => rfl
    | cons _ _ ih => exact congrArg (· + 1) ih
  have kinds : ∀ p ∈ ps, sc.lookup p = some .local ∨ (sc.lookup p = some .cell ∧ ((cellsFrom (s.heap.objs.size + 1) sc []).lookup p).isSome = true) := fun p m => by
    rcases Bool.or_eq_true_iff.mp (hp p m) with q | q
    · exact .inl (beq_iff_eq.mp q)
    · obtain ⟨q1, q2⟩ := Bool.and_eq_true_iff.mp q
      exact .inr ⟨beq_iff_eq.mp q1, Option.isSome_iff_exists.mpr (lk q2)⟩
  have cells : ∀ x, sc.lookup x = some .cell ∨ sc.lookup x = some .free → ∃ b, (cellsFrom (s.heap.objs.size + 1) sc []).lookup x = some b := fun x hx => by
    rcases hx with hx | hx
    · have := hsc _ (mem_of_lookup hx)
      rw [Bool.and_eq_true] at this
      exact lk (by simpa using this.2)
    · have := hsc _ (mem_of_lookup hx)
      rw [Bool.and_eq_true] at this
      exact absurd this.1 (by simp)
  refine codeAny_call_cells (fd := fd) (binds := ps.zip ms) room.dl (X _ _ ha) hd (ok.nolimit.keeps g) (codeRec_of X hcd) hb (hbd ms lm) hc (fun x m => hs ▸ kinds _ (List.of_mem_zip m).1) (fun s₁ x => ?_) hco hge hk
  have e2 : (callEnvC fd s.heap.objs.size a).cells = cellsFrom (s.heap.objs.size + 1) sc [] := by unfold callEnvC newEnv; rw [hs]
  have e3 : (callEnvC fd s.heap.objs.size a).locals = s.heap.objs.size := rfl
  have e4 : (callEnvC fd s.heap.objs.size a).scope.names = sc := hs
  have e5 : (callEnvC fd s.heap.objs.size a).scope.kind = .function := hk
  have e6 : (callEnvC fd s.heap.objs.size a).globals = mainGlobals := hg
  have e7 : (callEnvC fd s.heap.objs.size a).builtins = builtinsNs := hbi
  generalize callEnvC fd s.heap.objs.size a = env at *
  rw [← e2] at cells ke
  have kof : ∀ y, env.kindOf y = sc.lookup y := fun y => by unfold Env.kindOf; rw [e4]
  have fresh : ∀ b, s.heap.objs.size ≤ b → s.heap.get? b = none := fun b hb => none_of (keeps_refl s) hb
  have above : ∀ p ∈ env.cells, s.heap.objs.size < p.2 := fun p m => e3 ▸ x.above p.1 p.2 m
  have ci : ∀ p : Str × Addr, env.cells.lookup p.1 = some p.2 → ∃ v, s₁.heap.IsCell p.2 v := fun p l => ⟨_, x.cell _ _ l⟩
  have sl : ∀ b ∈ own env [], s.heap.objs.size ≤ b ∧ ∃ o, s₁.heap.get? b = some o := fun b m => by
    rcases List.mem_cons.mp m with m | m
    · obtain ⟨o, _, _, e, _⟩ := x.toInCall.ns
      rw [m]; exact ⟨x.toInCall.fresh, o, e⟩
    · obtain ⟨p, mp, rfl⟩ := List.mem_map.mp m
      refine ⟨Nat.le_of_lt (above p mp), (ci p (lookup_key (ke ▸ nk) mp)).elim fun v i => i.elim fun o q => ⟨o, q.1⟩⟩
  refine k env s₁ _ x.toInCall.same ⟨⟨room.deeper env, ⟨e5, e4, e6, e7, fun b o e => x.toInCall.keep b o (g b o e), cells⟩, fun b o e => ⟨g b o e, fun m => nomatch m⟩, fun b o w => x.toInCall.keep b o w.1,
    fun b m => (List.mem_append.mp m).elim (fun m => (sl b m).2) fun m => (ho b m).elim fun o e => ⟨o, x.toInCall.keep b o e⟩, List.nodup_cons.mpr ⟨fun m => ?_, ?_⟩,
    fun b m => ⟨(fun o w => by have := w.1; rw [fresh b (sl b m).1] at this; cases this), fun q => (ho b q).elim fun o e => by rw [fresh b (sl b m).1] at e; cases e⟩, ⟨_, x.toInCall.ns⟩, ci⟩, fun y v hy h => ?_, fun _ _ _ h => nomatch (show (none : Option V) = some _ from h)⟩
  · obtain ⟨p, mp, e⟩ := List.mem_map.mp m
    exact Nat.lt_irrefl _ (Nat.lt_of_lt_of_eq (above p mp) (e.trans e3))
  · exact List.pairwise_map.mpr x.apart
  · obtain ⟨mv, rv, h1, h2⟩ := bind_get (kd := env.kindOf) (m := fun _ => none) (m' := fun _ => none) r nd h
    refine ⟨mv, ?_, rv.mono fun b o w => ⟨x.toInCall.keep b o w.1, fun m => (List.mem_append.mp m).elim (fun m => absurd (Heap.lt_size w.1) (Nat.not_lt.mpr (sl b m).1)) w.2⟩⟩
    rw [kof] at h1 h2
    unfold isVar at hy
    cases e : sc.lookup y with
    | none => rw [e] at hy; cases hy
    | some q =>
      by_cases ql : q = .local
      · rw [ql] at e; exact .inl ⟨e, _, x.toInCall.ns, h1 e⟩
      · have hc : sc.lookup y = some .cell ∨ sc.lookup y = some .free := by rw [e] at hy ⊢; cases q <;> first | exact .inl rfl | exact .inr rfl | exact absurd rfl ql | cases hy
        obtain ⟨b, l⟩ := cells y hc
        exact .inr ⟨hc, b, l, h2 (by rw [e]; exact fun q' => ql (Option.some.inj q')) ▸ x.cell y b l⟩

theorem call_ok (po : PmOk c d P) (D : DefIn c f ps body sc) (hn : nameOk sc ps = true) {vs : List V} {v : V} {n : Nat} (hl : vs.length = ps.length) (h : run P sc n ⟨ps.zip vs, []⟩ body = some (.ret v)) : CallOk c (d + 1) f vs v := fun A s hid ms Q E room g ho r k =>
  wpAny_call (enter po.ok D hn room g ho r hl fun env s₁ E' sh st => run_ok po n h _ env _ hid [] s₁ _ E' st fun f s₂ sh₂ p => by
    obtain ⟨mv, rfl, gb, rv⟩ := p
    obtain ⟨h', tk, rfl⟩ := sh.trans sh₂
    exact k mv _ (keeps_heap tk fun b o e => gb b o ⟨e, fun m => nomatch m⟩) rv)
end


/-! the class: instances are made -/
structure SetOk (K : Frag) (C : Addr) : Prop where
  sa : findIn K (.ref C) "__setattr__" = some (some (.builtin "object.__setattr__"))
  po : plainOver K C = true
  dict : (clsIn K C).any (·.hasDict) = true
theorem putL_len (name : Str) (hs : Int) (k v : Value) : ∀ es : List DictEntry, (putL name hs k v es).length ≤ es.length + 1 := by
  intro es
  induction es with
  | nil => exact Nat.le_refl _
  | cons e es ih =>
    unfold putL
    by_cases h : e.key.isStr name = true
    · rw [if_pos h]; exact Nat.le_succ _
    · rw [if_neg h]; exact Nat.succ_le_succ ih
section
variable {prog : Program} {w : World} {A : Around} {s : Shared} {K : Frag} {C x dx : Addr} {es : List DictEntry} {n : Nat} {name : Str} {v : Value}
theorem own_store {R : Result → Shared → Prop} {tk : Tok} (X : K.In s.heap) (so : SetOk K C) (ht : takerIn K C name = some none) (hx : s.heap.get? x = some (instObj C dx)) (hd : s.heap.get? dx = some (dictOf es n)) (hr : es.any (·.refKey) = false) (hz : es.length ≤ 99)
    (h : ∀ h' tk hs, h'.get? dx = some (dictOf (putL name hs (.str name tk) v es) (putN name es n)) → SameBut1 dx s.heap h' → R (.ok (.ret .none)) { s with heap := h', toks := s.toks + 1 }) :
    codeAny (model prog w) A (.call (.builtin "object.__setattr__") ⟨[.ref x, .str name tk, v], []⟩) R s := by
  refine osa_open X (instAt hx hd) so.po ht fun b => ?_
  obtain ⟨cd, hc, hd'⟩ := any_some so.dict
  refine wpAny_bind (wpAny_pure (wpAny_bind (wpAny_bind (wpAny_loadPart hx (wpAny_bind ((looks_clsIn X hc).here ?_))))))
  rw [hd']
  refine wpAny_pure (a := some dx) (wpAny_bind (wpAny_pure (wpAny_bind ?_)))
  unfold nsSet
  refine wpAny_bind (wpAny_bind (wpAny_askSetting (wpAny_pure (wpAny_bind (wpAny_mkText (wpAny_bind (wpAny_loadPart hd ?_)))))))
  have c : (!es.toArray.any (·.key.isStr name) && es.toArray.any (·.refKey)) = false := by rw [← Array.any_toList, ← Array.any_toList, hr, Bool.and_false]
  dsimp only
  rw [aRefKeyMayBeTheName_at, c]
  have D' := Heap.get?_update_self (Obj.putName name (PyData.keyHash w.params name) (.str name s.toks) v) hd (by rw [putName_dict]; rfl)
  rw [putName_dict] at D'
  refine wpAny_updatePart hd ?_
  refine wpAny_bind (wpAny_lookBehind D' (pastItsLine_dict (by rw [List.size_toArray, sizeLine_eq]; have := putL_len name (PyData.keyHash w.params name) (.str name s.toks) v es; omega)) ?_)
  exact wpAny_pure (h _ _ _ D' (upd_but _))
theorem attr_set {E : Value → Shared → Prop} {Q : Unit → Shared → Prop} (X : K.In s.heap) (so : SetOk K C) (ht : takerIn K C name = some none)
    (hx : s.heap.get? x = some (instObj C dx)) (hd : s.heap.get? dx = some (dictOf es n)) (hr : es.any (·.refKey) = false) (hz : es.length ≤ 99)
    (h : ∀ h' tk hs, h'.get? dx = some (dictOf (putL name hs (.str name tk) v es) (putN name es n)) → SameBut1 dx s.heap h' → Q () { s with heap := h', toks := s.toks + 2 }) : wpAny (model prog w) A (setAttr (.ref x) name v) Q E s :=
  set_plain X (instAt hx hd) so.sa (own_store (s := { s with toks := s.toks + 1 }) X so ht hx hd hr hz h)
end


section
variable {c : Cx} {d : Nat} {P : Pm} {T : Evs} {sc : Sc} {r r' : Rs} {env : Env} {B : View} {hid : List Addr} {ads : List (Str × Addr)} {A : Around} {h h' : Heap} {dx : Addr}
theorem St.poke (st : At1 c d sc env B (dx :: hid) ads A r h) (hs : SameBut1 dx h h') (hn : ∃ o, h'.get? dx = some o) (hB : ∀ o, ¬ B dx o) : At1 c d sc env B (dx :: hid) ads A r h' :=
  st.turn st.fr.tb (fun b o e => hs b o (fun q => hB o (q ▸ e)) (st.fr.gb b o e)) (fun a m => by
    by_cases e : a = dx
    · exact e ▸ hn
    · exact (st.fr.ho a (List.mem_append_right _ m)).elim fun o q => ⟨o, hs a o e q⟩) st.fr.ap
    (fun a m o e => hs a o (fun q => (st.fr.ap a m).2 (q ▸ List.mem_cons_self ..)) e) fun b o w => ⟨hs b o (fun q => w.2 (q ▸ List.mem_append_right _ (List.mem_cons_self ..))) w.1, w.2⟩

/-- an attribute of a thing in the making is set -/
theorem inst_set (so : SetOk c.K c.C) (ok : c.Ok) {name y : Str} {yp ap pos : Pos} {e : Expr} {es : List DictEntry} {n : Nat} {x : Addr} (ht : takerIn c.K c.C name = some none) (hy : okName y = true) (hc : notComp e = true) {s : Shared} {Q : Flow → Shared → Prop} {E : Value → Shared → Prop}
    (hB : B x (instObj c.C dx) ∧ ∀ o, ¬ B dx o) (hes : es.any (·.refKey) = false ∧ es.length ≤ 99)
    (h : wpAny (model c.prog c.w) A (eval e env) (fun mv s₁ => ∃ ads' r', Holds env sc s₁.heap y (.ref x) ∧ At1 c d sc env B (dx :: hid) ads' A r' s₁.heap ∧ s₁.heap.get? dx = some (dictOf es n) ∧
      ∀ h' kt hs, At1 c d sc env B (dx :: hid) ads' A r' h' → Holds env sc h' y (.ref x) → h'.get? dx = some (dictOf (putL name hs (.str name kt) mv es) (putN name es n)) → SameBut1 dx s₁.heap h' → Q .next { s₁ with heap := h', toks := s₁.toks + 2 }) E s) :
    wpAny (model c.prog c.w) A (exec (.Assign [.Attribute (.Name y yp) name ap] e pos) env) Q E s := by
  refine plainObj_wpAny_Assign_Attribute (wpAny_mono h (fun mv s₁ q => ?_) fun _ _ q => q) ((kinds e).swap hc _ _ _)
  obtain ⟨ads', r', hh, st, hd, k⟩ := q
  refine wpAny_Name (load_ok st.fr.ec hh (okName_of hy).2 (attr_set (ok.KIn.keeps st.fr.ec.top) so ht (st.fr.gb _ _ hB.1) hd hes.1 hes.2 fun h' tk hs hd' sb => ?_)) (okName_of hy).1
  have no : dx ∉ slots env := fun m => (st.fr.ap dx (List.mem_append_right _ m)).2 (List.mem_cons_self ..)
  exact k h' tk hs (st.poke sb ⟨_, hd'⟩ hB.2) (hh.same st.fr no sb) hd' sb
end


noncomputable def V.asN : V → Option (List S × Int)
  | .norm l b => some (l, b)
  | _ => none
theorem asN_eq {v : V} {p} (h : v.asN = some p) : v = .norm p.1 p.2 := by
  cases v with
  | norm l b => injection h with h; rw [← h]
  | _ => injection h
noncomputable def V.asPa : V → Option Addr
  | .part x _ => some x
  | _ => none
noncomputable def Out.get : Out → Option Rs
  | .next r => some r
  | _ => none
theorem get_eq {o : Out} {r : Rs} (h : o.get = some r) : o = .next r := by
  cases o with
  | next r' => injection h with h; rw [h]
  | _ => injection h
theorem run_then {c : Cx} {d : Nat} {P : Pm} {sc : Sc} (po : PmOk c d P) {env : Env} {B : View} {hid : List Addr} {A : Around} {Q : Flow → Shared → Prop} {E : Value → Shared → Prop} {rest : List Stmt} {r' : Rs} : ∀ n {r : Rs} {l : List Stmt} {ads : List (Str × Addr)} {s : Shared}, run P sc n r l = some (.next r') → At1 c d sc env B hid ads A r s.heap →
    (∀ ads' s', Sh s s' → At1 c d sc env B hid ads' A r' s'.heap → wpAny (model c.prog c.w) A (execs rest env) Q E s') → wpAny (model c.prog c.w) A (execs (l ++ rest) env) Q E s := by
  intro n
  induction n with
  | zero => intro r l ads s h; injection h
  | succ n ih =>
    intro r l ads s h st k
    cases l with
    | nil => injection h with h; injection (show some r = some r' from congrArg Out.get h) with h; exact k ads s (.refl s) (h ▸ st)
    | cons x l =>
      refine bindK h fun o' h1 h2 => wpAny_execs_cons (stepS_ok po (evs_ok po n) (fun r b o => run_ok po n) h1 A env B hid ads s _ E st fun f s' sh p => ?_)
      cases o' with
      | next r₁ => obtain ⟨rfl, ads', st'⟩ := p; exact ih h2 st' fun ads'' s'' sh' => k ads'' s'' (sh.trans sh')
      | brk _ => injection h2 with h2; exact nomatch (show none = some r' from congrArg Out.get h2)
      | ret _ => injection h2 with h2; exact nomatch (show none = some r' from congrArg Out.get h2)

/-- what the class's own def of a start does, in parts -/
structure Ini where
  e1 : Expr
  mid : List Stmt
  e2 : Expr
  e3 : Expr
  e4 : Expr
  e5 : Expr
noncomputable def initF (P : Pm) (sc : Sc) (n : Nat) (I : Ini) (x : Addr) (line : Str) : Option (Option Addr × WS) :=
  ((evs P n).e sc [("self", .part x none), ("ws", .s line)] I.e1).bind fun v1 => if v1.asS = some line then
    (run P sc n ⟨[("self", .part x (some line)), ("self", .part x none), ("ws", .s line)], []⟩ I.mid).bind fun o => o.get.bind fun r => (r.ω.lookup ("count" : Str)).bind fun tv => tv.asL.bind fun l =>
      let rA : Rs := ⟨scalars r.ρ, [("count", .list l)]⟩
      ((evs P n).e sc (fz sc I.e2 rA).ρ I.e2).bind fun v2 => v2.asI.bind fun vn =>
      ((evs P n).e sc (fz sc I.e3 (fz sc I.e2 rA)).ρ I.e3).bind fun v3 => v3.asI.bind fun vt =>
      ((evs P n).e sc (fz sc I.e4 (fz sc I.e3 (fz sc I.e2 rA))).ρ I.e4).bind fun v4 => v4.asN.bind fun p =>
      ((evs P n).e sc (fz sc I.e5 (fz sc I.e4 (fz sc I.e3 (fz sc I.e2 rA)))).ρ I.e5).bind fun v5 => v5.asB.map fun q => ((r.ρ.lookup ("self" : Str)).bind V.asPa, ⟨line, vn, vt, p.1, p.2, q⟩) else none

section
variable {c : Cx} {d : Nat} {P : Pm} {sc : Sc}
theorem init_ok (po : PmOk c d P) (so : SetOk c.K c.C) {fI : Addr} {I : Ini} {n : Nat} {p1 p2 p3 p4 p5 q1 q2 q3 q4 q5 r1 r2 r3 r4 r5 : Pos} (t1 : takerIn c.K c.C "raw" = some none) (t2 : takerIn c.K c.C "n" = some none) (t3 : takerIn c.K c.C "nt" = some none) (t4 : takerIn c.K c.C "norm" = some none) (t5 : takerIn c.K c.C "is_simple" = some none)
    (D : DefIn c (.ref fI) ["self", "ws"] (.Assign [.Attribute (.Name "self" p1) "raw" q1] I.e1 r1 :: (I.mid ++ [.Assign [.Attribute (.Name "self" p2) "n" q2] I.e2 r2, .Assign [.Attribute (.Name "self" p3) "nt" q3] I.e3 r3, .Assign [.Attribute (.Name "self" p4) "norm" q4] I.e4 r4, .Assign [.Attribute (.Name "self" p5) "is_simple" q5] I.e5 r5])) sc)
    (hn : nameOk sc ["self", "ws"] = true) (hv : isVar sc "self" = true) (c1 : notComp I.e1 = true) (c2 : notComp I.e2 = true) (c3 : notComp I.e3 = true) (c4 : notComp I.e4 = true) (c5 : notComp I.e5 = true)
    {x dx : Addr} {line : Str} {ws : WS} (hi : initF P sc n I x line = some (some x, ws)) {A : Around} {s : Shared} {hid : List Addr} {m : Value} {R : Result → Shared → Prop} (room : Room A (d + 1)) (g : Grows c.H s.heap) (ho : HidOk hid s.heap)
    (hx : s.heap.get? x = some (instObj c.C dx)) (hd : s.heap.get? dx = some (dictOf [] 0)) (hxd : x ≠ dx) (hxh : x ∉ hid) (hdh : dx ∉ hid) (hdc : c.H.get? dx = none) (hm : sca m = some (.str line))
    (k : ∀ s', Sh s s' → (∀ b o, b ≠ dx → s.heap.get? b = some o → s'.heap.get? b = some o) → RelWS c.C (vw s'.heap hid) ws (.ref x) → R (.ok (.ret .none)) s') : codeAny (model c.prog c.w) A (.call (.ref fI) ⟨[.ref x, m], []⟩) R s := by
  refine bindK hi fun v1 h1 hi => ?_
  refine iteK hi fun e1 hi => ?_
  refine bind2K hi fun o r hr h2 hi => ?_
  refine bind2K hi fun tv l h3 h4 hi => ?_
  refine bind2K hi fun v2 vn h5 h6 hi => ?_
  refine bind2K hi fun v3 vt h7 h8 hi => ?_
  refine bind2K hi fun v4 pp h9 h10 hi => ?_
  refine bindK hi fun v5 h11 hi => ?_
  refine mapK hi fun q h12 h13 => ?_
  obtain ⟨hself, h13⟩ := Prod.mk.inj h13
  have T := evs_ok po n
  refine enter po.ok D hn room g (hid := dx :: hid) (vs := [.part x none, .s line]) (fun a m => (List.mem_cons.mp m).elim (fun e => ⟨_, e ▸ hd⟩) (ho a)) (.cons ⟨rfl, fun _ e => nomatch e⟩ (.cons hm .nil)) rfl fun env s₁ E' sh st => ?_
  have self_ : ∀ {h : Heap} {ρ : Rho} {l : List Addr} {raw}, Reads c env sc l h ρ → ρ.lookup ("self" : Str) = some (V.part x raw) → Holds env sc h "self" (.ref x) := fun rd e => by
    obtain ⟨mv, hh, r⟩ := rd _ _ hv e
    exact r.1 ▸ hh
  have hs := self_ st.rd rfl
  have g₁ : Grows s.heap s₁.heap := fun b o e => st.fr.gb b o ⟨e, fun m => nomatch m⟩
  have st' : At1 c d sc env (fun b o => vw s.heap [] b o ∧ b ≠ dx) (dx :: hid) [] (A.deeper env) ⟨[("self", .part x none), ("ws", .s line)], []⟩ s₁.heap :=
    st.turn (fun b o e => ⟨⟨g b o e, fun m => nomatch m⟩, fun q => by rw [q, hdc] at e; cases e⟩) (fun b o w => st.fr.gb b o w.1) (fun a m => st.fr.ho a (List.mem_append_right _ m)) (fun a m => ⟨fun o w => (st.fr.ap a m).1 o w.1, (st.fr.ap a m).2⟩) (fun _ _ _ e => e) fun _ _ w => w
  refine wpAny_execs_cons (inst_set (es := []) (n := 0) so po.ok t1 (by decide) c1 ⟨⟨⟨hx, fun m => nomatch m⟩, hxd⟩, fun o w => w.2 rfl⟩ ⟨rfl, Nat.zero_le _⟩ (T.e _ _ _ _ h1 _ env s₁ _ _ _ st'.atF fun mv s₂ kp rv => ⟨[], _, hs.grows (grow kp), st'.grows (grow kp), grow kp _ _ (g₁ _ _ hd), fun h₂ kt hsh st₂ hh₂ hd₂ sb₂ => ?_⟩))
  cases asS_eq e1
  obtain ⟨t, rfl⟩ := sca_str rv
  have st₃ := (St.unhide (wr := [dx]) st₂).inner
  have nod : dx ∉ own env [] := fun m => (st₂.fr.ap dx m).2 (List.mem_cons_self ..)
  have nox : x ∉ own env [] := fun m => (st₂.fr.ap x m).1 _ ⟨⟨hx, fun m => nomatch m⟩, hxd⟩
  have hx₂ : h₂.get? x = some (instObj c.C dx) := st₂.fr.gb _ _ ⟨⟨hx, fun m => nomatch m⟩, hxd⟩
  have st₄ : At1 c d sc env (vw h₂ (own env [])) hid [] (A.deeper env) ⟨[("self", .part x (some line)), ("self", .part x none), ("ws", .s line)], []⟩ h₂ := ⟨st₃.fr, fun y v q l => by
    rw [List.lookup_cons] at l
    by_cases e : y = "self"
    · rw [beq_iff_eq.mpr e] at l
      injection l with l
      rw [e, ← l]
      refine ⟨_, hh₂, rfl, fun t' e' => ?_⟩
      injection e' with e'
      exact ⟨dx, _, t, ⟨hx₂, fun m => (List.mem_append.mp m).elim nox hxh⟩, ⟨hd₂, fun m => (List.mem_append.mp m).elim nod hdh⟩, e' ▸ rfl⟩
    · rw [beq_eq_false_iff_ne.mpr e] at l
      exact st₃.rd y v q l, st₃.mu⟩
  refine run_then (s := { s₂ with heap := h₂, toks := s₂.toks + 2 }) po n (get_eq h2 ▸ hr) st₄ fun ads s₃ sh₃ st₅ => ?_
  have hs₃ : Holds env sc s₃.heap "self" (.ref x) := bindK hself fun v e1 e2 => by
    cases v with
    | part y raw => injection e2 with e2; exact self_ st₅.rd (e2 ▸ e1)
    | _ => injection e2
  have hx₃ := st₅.fr.gb _ _ ⟨hx₂, nox⟩
  have hd₃ := st₅.fr.gb _ _ ⟨hd₂, nod⟩
  have noa : ∀ a ∈ own env ads, a ≠ dx := fun a m e => by rw [e] at m; exact (st₅.fr.ap dx m).1 _ ⟨hd₂, nod⟩
  obtain ⟨f₆, -⟩ := st₅.fr.turn (B' := fun b o => vw h₂ (own env []) b o ∧ b ≠ dx) (hid' := dx :: hid) (fun b o e => ⟨st₅.fr.tb b o e, fun q => by rw [q, hdc] at e; cases e⟩) (fun b o w => st₅.fr.gb b o w.1)
    (fun a m => (List.mem_cons.mp m).elim (fun e => ⟨_, e ▸ hd₃⟩) fun m => st₅.fr.ho a (List.mem_append_right _ m)) (fun a m => ⟨fun o w => (st₅.fr.ap a m).1 o w.1, fun q => (List.mem_cons.mp q).elim (noa a m) (st₅.fr.ap a m).2⟩) (fun _ _ _ e => e)
  have st₆ : At1 c d sc env (fun b o => vw h₂ (own env []) b o ∧ b ≠ dx) (dx :: hid) ads (A.deeper env) ⟨scalars r.ρ, [("count", .list l)]⟩ s₃.heap := ⟨f₆, fun y v q l => by
      obtain ⟨h1, h2⟩ := lookup_filter l
      obtain ⟨mv, p, rv⟩ := st₅.rd y v q h2
      refine ⟨mv, p, ?_⟩
      unfold isSc at h1
      rw [h2] at h1
      cases v <;> first | exact rv | (injection h1; done), fun y v q l' => by
      rw [List.lookup_cons] at l'
      by_cases e : y = "count"
      · rw [beq_iff_eq.mpr e] at l'
        injection l' with l'
        subst e l'
        cases asL_eq h4
        obtain ⟨a, m, p, vs, n, e, rl⟩ := st₅.mu _ _ q h3
        exact ⟨a, m, p, vs, n, e, rl⟩
      · rw [beq_eq_false_iff_ne.mpr e] at l'; injection l'⟩
  have hB : (vw h₂ (own env []) x (instObj c.C dx) ∧ x ≠ dx) ∧ ∀ o, ¬(vw h₂ (own env []) dx o ∧ dx ≠ dx) := ⟨⟨⟨hx₂, nox⟩, hxd⟩, fun o w => w.2 rfl⟩
  obtain ⟨ads₂, f₂⟩ := fz_ok st₆ I.e2
  refine wpAny_execs_cons (inst_set (es := putL "raw" hsh (.str "raw" kt) (.str line t) []) so po.ok t2 (by decide) c2 hB ⟨rfl, show 1 ≤ 99 by decide⟩ (T.e _ _ _ _ h5 _ env s₃ _ _ _ f₂.atF fun m₂ u₂ kp₂ rv₂ => ⟨ads₂, _, hs₃.grows (grow kp₂), f₂.grows (grow kp₂), grow kp₂ _ _ hd₃, fun w₂ kt₂ hk₂ a₂ i₂ d₂ b₂ => ?_⟩))
  obtain ⟨ads₃, f₃⟩ := fz_ok a₂ I.e3
  refine wpAny_execs_cons (inst_set (s := { u₂ with heap := w₂, toks := u₂.toks + 2 }) (es := putL "n" hk₂ (.str "n" kt₂) m₂ (putL "raw" hsh (.str "raw" kt) (.str line t) [])) so po.ok t3 (by decide) c3 hB ⟨rfl, show 2 ≤ 99 by decide⟩ (T.e _ _ _ _ h7 _ env _ _ _ _ f₃.atF fun m₃ u₃ kp₃ rv₃ => ⟨ads₃, _, i₂.grows (grow kp₃), f₃.grows (grow kp₃), grow kp₃ _ _ d₂, fun w₃ kt₃ hk₃ a₃ i₃ d₃ b₃ => ?_⟩))
  obtain ⟨ads₄, f₄⟩ := fz_ok a₃ I.e4
  refine wpAny_execs_cons (inst_set (s := { u₃ with heap := w₃, toks := u₃.toks + 2 }) (es := putL "nt" hk₃ (.str "nt" kt₃) m₃ (putL "n" hk₂ (.str "n" kt₂) m₂ (putL "raw" hsh (.str "raw" kt) (.str line t) []))) so po.ok t4 (by decide) c4 hB ⟨rfl, show 3 ≤ 99 by decide⟩ (T.e _ _ _ _ h9 _ env _ _ _ _ f₄.atF fun m₄ u₄ kp₄ rv₄ => ⟨ads₄, _, i₃.grows (grow kp₄), f₄.grows (grow kp₄), grow kp₄ _ _ d₃, fun w₄ kt₄ hk₄ a₄ i₄ d₄ b₄ => ?_⟩))
  obtain ⟨ads₅, f₅⟩ := fz_ok a₄ I.e5
  refine wpAny_execs_cons (inst_set (s := { u₄ with heap := w₄, toks := u₄.toks + 2 }) (es := putL "norm" hk₄ (.str "norm" kt₄) m₄ (putL "nt" hk₃ (.str "nt" kt₃) m₃ (putL "n" hk₂ (.str "n" kt₂) m₂ (putL "raw" hsh (.str "raw" kt) (.str line t) [])))) so po.ok t5 (by decide) c5 hB ⟨rfl, show 4 ≤ 99 by decide⟩ (T.e _ _ _ _ h11 _ env _ _ _ _ f₅.atF fun m₅ u₅ kp₅ rv₅ => ⟨ads₅, _, i₄.grows (grow kp₅), f₅.grows (grow kp₅), grow kp₅ _ _ d₄, fun w₅ kt₅ hk₅ a₅ i₅ d₅ b₅ => ?_⟩))
  refine wpAny_execs_nil ?_
  obtain ⟨k2, rfl⟩ := asI_rel h6 rv₂
  obtain ⟨k3, rfl⟩ := asI_rel h8 rv₃
  cases asN_eq h10
  cases asB_eq h12
  have rv₅ := sca_bool rv₅
  subst rv₅ h13
  have rn : RelNorm (vw w₅ hid) pp.1 pp.2 m₄ := RelNorm.mono (fun b o w => (⟨b₅ b o (fun q => w.2 (q ▸ List.mem_append_right _ (List.mem_cons_self ..))) (grow kp₅ b o (b₄ b o (fun q => w.2 (q ▸ List.mem_append_right _ (List.mem_cons_self ..))) w.1)), fun m => w.2 (List.mem_append_right _ (List.mem_cons_of_mem _ m))⟩ : vw w₅ hid b o)) rv₄
  refine k _ (((((((sh.trans (Sh.keeps kp)).to _ _).trans sh₃).trans (Sh.keeps kp₂)).to _ _).trans (Sh.keeps kp₃) |>.to _ _).trans (Sh.keeps kp₄) |>.to _ _ |>.trans (Sh.keeps kp₅) |>.to _ _) (fun b o nb e => a₅.fr.gb b o ?_) ⟨x, dx, _, m₄, _, _, _, rfl, ⟨a₅.fr.gb _ _ hB.1, hxh⟩, ⟨d₅, hdh⟩, rfl, rfl, rfl, rfl, rfl, rn, rfl, rfl, rfl⟩
  exact ⟨⟨st₂.fr.gb b o ⟨⟨e, fun m => nomatch m⟩, nb⟩, fun m => (st₂.fr.ap b m).1 o ⟨⟨e, fun m => nomatch m⟩, nb⟩⟩, nb⟩
end


theorem under_room {A : Around} {d : Nat} {C : Addr} {rest : List Value} (r : Room A (d + 1)) : Room (A.under (.builtin "type.__call__" ⟨.ref C :: rest, []⟩)) d := by
  refine ⟨r.hh, ?_, ?_⟩
  · have := r.depth
    show A.depth + Code.weight (.builtin "type.__call__" ⟨.ref C :: rest, []⟩) + 10 * d ≤ 900
    have w : Code.weight (.builtin "type.__call__" ⟨.ref C :: rest, []⟩) = 1 := by kernel_rfl
    omega
  · have := r.units
    show A.units + Code.cUnits (.builtin "type.__call__" ⟨.ref C :: rest, []⟩) + 100 * d ≤ 9000
    have w : Code.cUnits (.builtin "type.__call__" ⟨.ref C :: rest, []⟩) = 1 := by kernel_rfl
    omega
/-- the class's own words -/
structure ClsOk (c : Cx) (fI : Addr) : Prop where
  makes : makesIn c.K c.C = true
  init : findIn c.K (.ref c.C) "__init__" = some (some (.ref fI))
  fn : typeIn c.K (.ref fI) = some (.type "function")
  so : SetOk c.K c.C
  t1 : takerIn c.K c.C "raw" = some none
  t2 : takerIn c.K c.C "n" = some none
  t3 : takerIn c.K c.C "nt" = some none
  t4 : takerIn c.K c.C "norm" = some none
  t5 : takerIn c.K c.C "is_simple" = some none
section
variable {c : Cx} {d : Nat} {P : Pm} {sc : Sc}
theorem make_ok (po : PmOk c d P) {fI : Addr} (co : ClsOk c fI) {I : Ini} {n : Nat} {p1 p2 p3 p4 p5 q1 q2 q3 q4 q5 r1 r2 r3 r4 r5 : Pos}
    (D : DefIn c (.ref fI) ["self", "ws"] (.Assign [.Attribute (.Name "self" p1) "raw" q1] I.e1 r1 :: (I.mid ++ [.Assign [.Attribute (.Name "self" p2) "n" q2] I.e2 r2, .Assign [.Attribute (.Name "self" p3) "nt" q3] I.e3 r3, .Assign [.Attribute (.Name "self" p4) "norm" q4] I.e4 r4, .Assign [.Attribute (.Name "self" p5) "is_simple" q5] I.e5 r5])) sc)
    (hn : nameOk sc ["self", "ws"] = true) (hv : isVar sc "self" = true) (c1 : notComp I.e1 = true) (c2 : notComp I.e2 = true) (c3 : notComp I.e3 = true) (c4 : notComp I.e4 = true) (c5 : notComp I.e5 = true)
    {line : Str} {ws : WS} (hi : ∀ x, initF P sc n I x line = some (some x, ws)) : CallOk c (d + 2) (.ref c.C) [.s line] (.ws ws) := fun A s hid ms Q E room g ho r k => by
  obtain ⟨m, rfl, rm⟩ := both1 r
  obtain ⟨h, gg, dd, t, os⟩ := s
  have X := po.ok.KIn.keeps g
  have hx : ((h.push (dictOf [] 0)).push (instObj c.C h.objs.size)).get? (h.objs.size + 1) = some (instObj c.C h.objs.size) := by rw [← Heap.size_push h (dictOf [] 0)]; exact Heap.get?_push_size _ rfl
  have hd : ((h.push (dictOf [] 0)).push (instObj c.C h.objs.size)).get? h.objs.size = some (dictOf [] 0) := Heap.get?_push_of_some _ (Heap.get?_push_size _ rfl)
  have gr : Grows h ((h.push (dictOf [] 0)).push (instObj c.C h.objs.size)) := (push_grows _ _).trans (push_grows _ _)
  refine wpAny_call (make_core (makes_of X co.makes) (looks_findIn X co.init) (fun self => bind_fn X self co.fn) (.inl rfl) ?_)
  refine init_ok po co.so co.t1 co.t2 co.t3 co.t4 co.t5 D hn hv c1 c2 c3 c4 c5 (hi _) (hid := hid) (under_room room) (g.trans gr) (ho.grows gr) hx hd (Nat.succ_ne_self _) (ho.new (Nat.le_succ _)) (ho.new (Nat.le_refl _)) (none_of_grows g (Nat.le_refl _)) rm fun s' sh kp rw_ => ⟨rfl, ?_⟩
  obtain ⟨h', tk, rfl⟩ := sh
  exact k _ _ ⟨h', tk, rfl, fun b o e => kp b o (fun q => Nat.lt_irrefl _ (q ▸ Heap.lt_size e)) (gr b o e)⟩ rw_
end


/-! what stands in the heap behind the top -/
structure Fp where
  name : Str
  params : Arguments
  body : List Stmt
  scope : Scope
  qual : Str
  line : Int
noncomputable def fp0 : Fp := ⟨Str.empty, ⟨[], [], none, [], [], none, []⟩, [], ⟨.function, [], false, false, []⟩, Str.empty, 0⟩
noncomputable def fp : Stmt → Fp
  | .FunctionDef n a b _ _ _ sc _ q p => ⟨n, a, b, sc, q, p.line⟩
  | _ => fp0
noncomputable def clsBody : Stmt → List Stmt
  | .ClassDef _ _ _ b _ _ _ _ _ _ _ => b
  | _ => []
noncomputable def asgName : Stmt → Str
  | .Assign [.Name x _] _ _ => x
  | _ => Str.empty
noncomputable def dictKeys : Stmt → List Str
  | .Assign _ (.Dict ks _ _) _ => ks.filterMap fun | some (.Constant (.str x) _ _) => some x | _ => none
  | _ => []
noncomputable def prg : List Stmt := PySem.Challenge.pw_re0153_01.main.body
noncomputable def top (i : Nat) : Stmt := prg.getD i (.Pass default)
noncomputable def meth (i : Nat) : Stmt := (clsBody (top 6)).getD i (.Pass default)
noncomputable def fpM (i : Nat) (q : Str) : Fp := { fp (meth i) with qual := q }
noncomputable def codeO (f : Fp) (t : Nat) (argc : Int) (c : Nat) (full : Bool) (u : Nat) : Obj :=
  { cls := .type "code", data := .fields #[.str f.name t, .str f.qual (t + 1), .str "/claim/cut.py" (t + 2), .int f.line 0, .int argc 0, .int 0 0, .int 0 0, .int 3 0, .ref (bif full then c - 5 else c - 3), .bool true, .int 181 0,
    .ref (bif full then c - 4 else c - 2), .none, bif full then .ref (c - 3) else .none, bif full then .ref (c - 2) else .none, .ref (c - 1), .int u 0, .int f.line 0, .str "/claim/cut.py" (u + 1)] }
noncomputable def fnO (f : Fp) (m : Value) (c : Nat) : Obj :=
  { cls := .type "function", data := .func { name := f.name, qualname := f.qual, params := f.params, body := .stmts f.body, scope := f.scope, globals := 3, closure := [], defaults := .none, kwdefaults := .none, pyModule := m, code := .ref c } }
noncomputable def ent (P : Params) (x : Str) (t : Nat) (v : Value) : DictEntry := ⟨PyData.keyHash P x, .str x t, v⟩
noncomputable def mDoc : Value := .str "cpy313.doctest" 194
noncomputable def mTab : Value := .str "cpy313.tabnanny" 217
noncomputable def mTok : Value := .str "cpy313.token" 319
noncomputable def mLaw : Value := .str "law_re0153_01" 523
noncomputable def main1 (P : Params) : List DictEntry := [ent P "__name__" 165 mLaw, ent P "__doc__" 166 .none, ent P "__package__" 167 .none, ent P "__loader__" 168 (.builtin "__main__.__loader__#opaque"), ent P "__spec__" 169 .none,
  ent P "__annotations__" 170 (.ref 6), ent P "__builtins__" 171 (.ref 4), ent P "__file__" 173 (.str "/claim/cut.py" 172), ent P "__cached__" 174 .none]
noncomputable def main2 (P : Params) : List DictEntry := [ent P (fp (top 0)).name 193 (.ref 21), ent P (asgName (top 2)) 197 (.str "..." 196), ent P (fp (top 3)).name 209 (.ref 28), ent P (fp (top 4)).name 216 (.ref 35), ent P "Whitespace" 318 (.ref 97), ent P (asgName (top 8)) 322 (.int 0 321)]
noncomputable def main3 (P : Params) : List DictEntry := (List.range 48).map fun k => ent P (asgName (top (9 + k))) (324 + 2 * k) (.int (Int.ofNat (7 + k)) (323 + 2 * k))
noncomputable def fnNames (P : Params) : List (Nat × Nat × Nat) → List DictEntry := List.map fun p => ent P (fp (top p.1)).name p.2.1 (.ref p.2.2)
noncomputable def main4 (P : Params) : List DictEntry := ent P "EXACT_TOKEN_TYPES" 515 (.ref 102) :: fnNames P [(58, 522, 111), (60, 532, 118), (61, 546, 125), (62, 552, 130), (63, 564, 137), (64, 572, 144), (65, 583, 151), (66, 589, 156), (67, 595, 161)]
noncomputable def tokVals : List Nat := [54, 28, 24, 40, 19, 41, 7, 8, 16, 35, 46, 38, 14, 36, 12, 15, 37, 51, 23, 52, 17, 47, 48, 39, 11, 53, 13, 20, 33, 44, 29, 22, 27, 21, 30, 34, 45, 49, 50, 9, 10, 32, 43, 25, 18, 42, 26, 31]
noncomputable def tokEnt (P : Params) : List DictEntry := ((dictKeys (top 57)).zip tokVals).zipIdx.map fun p => ent P p.1.1 (bif Nat.ble p.2 34 then 419 + 2 * p.2 else 453 + p.2) (.int (Int.ofNat p.1.2) (2 * p.1.2 + 309))
noncomputable def clsEnt (P : Params) : List DictEntry := [ent P "__module__" 226 mTab, ent P "__firstlineno__" 230 (.int 41 229), ent P "S" 234 (.str " " 232), ent P "T" 235 (.str "\t" 233)] ++
  ([(1, 250, 52), (2, 259, 59), (3, 271, 66), (4, 279, 73), (5, 287, 80), (6, 297, 87), (7, 305, 94)].map fun p : Nat × Nat × Nat => ent P (fp (meth p.1)).name p.2.1 (.ref p.2.2)) ++
  [ent P "__static_attributes__" 311 (.ref 95), ent P "__dict__" 313 (.ref 98), ent P "__weakref__" 315 (.ref 99), ent P "__doc__" 316 .none]
noncomputable def clsO : Obj := { cls := .type "type", data := .cls { name := "Whitespace", bases := [.type "object"], mro := [.ref 97, .type "object"], ns := 96, qualname := "Whitespace" }, slots := #[none, none, some (.str "Whitespace" 219), some (.str "Whitespace" 227), some (.builtin "object.__new__"), some (.bool true)] }
noncomputable def dictO (es : List DictEntry) (n : Nat) : Obj := { cls := .type "dict", data := .dict es.toArray n }
/-- a def's two objects -/
noncomputable def defK (f : Fp) (m : Value) (c t : Nat) (argc : Int) (full : Bool) (u : Nat) : List (Addr × Obj) := [(c, codeO f t argc c full u), (c + 1, fnO f m c)]
noncomputable def K (P : Params) : Frag :=
  [(2, { cls := .none, data := .dict #[] }), (3, dictO (main1 P ++ main2 P ++ main3 P ++ main4 P) 73)] ++ defK (fp (top 3)) mDoc 27 198 2 true 207 ++ defK (fp (top 4)) mDoc 34 210 1 true 214 ++
  defK (fpM 1 "Whitespace.__init__") mTab 51 236 2 true 248 ++ defK (fpM 2 "Whitespace.longest_run_of_spaces") mTab 58 251 1 true 257 ++ defK (fpM 3 "Whitespace.indent_level") mTab 65 260 2 true 269 ++ defK (fpM 6 "Whitespace.less") mTab 86 288 2 true 295 ++
  [(96, dictO (clsEnt P) 4), (97, clsO), (102, dictO (tokEnt P) 48)] ++ defK (fp (top 58)) mTok 110 516 1 true 520 ++ defK (fp (top 60)) mLaw 117 525 2 true 530 ++ defK (fp (top 61)) mLaw 124 533 1 true 544 ++
  defK (fp (top 62)) mLaw 129 547 2 false 550 ++ defK (fp (top 63)) mLaw 136 553 2 true 562 ++ defK (fp (top 64)) mLaw 143 565 2 true 570 ++ defK (fp (top 65)) mLaw 150 573 2 true 581 ++ defK (fp (top 66)) mLaw 155 584 2 false 587 ++ defK (fp (top 67)) mLaw 160 590 1 false 593
@[reducible] noncomputable def asK : List Addr := [2, 3, 27, 28, 34, 35, 51, 52, 58, 59, 65, 66, 86, 87, 96, 97, 102, 110, 111, 117, 118, 124, 125, 129, 130, 136, 137, 143, 144, 150, 151, 155, 156, 160, 161]
theorem asK_eq (P : Params) : asK = (K P).map (·.1) := by kernel_rfl


/-! the ground of this program -/
noncomputable def gcTab : List (Str × S) := [("ELLIPSIS_MARKER", .str "..."), ("ENDMARKER", .int 0)]
noncomputable def faTab : List (Str × Addr) := [("_ellipsis_match", 28), ("_comment_line", 35), ("Whitespace", 97), ("ISEOF", 111), ("_law_line", 118), ("_law_closed", 125), ("_law_halved", 130), ("_law_rising", 137), ("_law_stand", 144), ("_law_once", 151), ("_law_twice", 156), ("law", 161)]
noncomputable def maTab : List (Str × Addr) := [("less", 87), ("indent_level", 66), ("longest_run_of_spaces", 59)]
noncomputable def tokTab : List (Str × Int) := [("+", 14), ("-", 15), ("*", 16), ("/", 17), ("|", 18), ("&", 19), ("<", 20), (">", 21), ("=", 22)]
noncomputable def cvTab : List (Str × S) := [("S", .str " "), ("T", .str "\t")]
noncomputable def cxOf (prog : Program) (w : World) (H : Heap) (mg mb : Str → Option Value) : Cx :=
  ⟨prog, w, K w.params, H, mg, mb, 97, fun x => gcTab.lookup x, fun x => (faTab.lookup x).map .ref, fun x => maTab.lookup x, fun x => tokTab.lookup x⟩
theorem tab_all {β γ : Type} {l : List (Str × β)} {f g : Str × β → γ} (h : l.map f = l.map g) {x : Str} {v : β} (e : l.lookup x = some v) : f (x, v) = g (x, v) := List.map_inj_left.mp h _ (mem_of_lookup e)
noncomputable def nmB : List Str := ["len", "list", "tuple", "max", "range", "enumerate"]
noncomputable def nmA : List Str := ["raw", "n", "nt", "norm", "is_simple"]
section
variable (P : Params)
theorem K_gc : gcTab.map (fun p => (nsIn (K P) mainGlobals p.1).map (·.map sca)) = gcTab.map fun p => some (some (some p.2)) := by kernel_rfl
theorem K_fa : faTab.map (fun p => (nsIn (K P) mainGlobals p.1, keepIn (K P) (.ref p.2))) = faTab.map fun p => (some (some (.ref p.2)), true) := by kernel_rfl
theorem K_ma : maTab.map (fun p => (findIn (K P) (.ref 97) p.1, isFn (K P) (.ref p.2), keepIn (K P) (.ref p.2))) = maTab.map fun p => (some (some (.ref p.2)), true, true) := by kernel_rfl
theorem K_free : nmB.map (fun x : Str => nsIn (K P) mainGlobals x) = nmB.map fun x : Str => some none := by kernel_rfl
theorem K_tok : tokTab.map (fun p => (nsIn (K P) 102 p.1).map (·.map sca)) = tokTab.map fun p => some (some (some (.int p.2))) := by kernel_rfl
theorem K_attr : nmA.map (fun x : Str => (findIn (K P) (.ref 97) x, takerIn (K P) 97 x)) = nmA.map fun x : Str => (some none, some none) := by kernel_rfl
theorem K_cv : cvTab.map (fun p => (findCls (K P) (.ref 97) (.type "type") p.1).map fun | .val v => (handedIn v, sca v) | _ => (false, none)) = cvTab.map fun p => some (true, some p.2) := by kernel_rfl
theorem K_lits {α : Type} (f : α → Str) (g : α → Tok) (k : α → Value) : ∀ l : List α, KeysLit P (l.map fun p => ent P (f p) (g p) (k p))
  | [] => trivial
  | _ :: l => ⟨⟨_, _, rfl, rfl⟩, K_lits f g k l⟩
end
theorem ns_sca {K : Frag} {a : Addr} {x : Str} {y : S} (h : (nsIn K a x).map (·.map sca) = some (some (some y))) : ∃ mv, nsIn K a x = some (some mv) ∧ sca mv = some y := by
  refine mapK h fun o h1 h2 => mapK h2 fun mv h3 h4 => ⟨mv, ?_, h4⟩
  rw [h1, h3]
theorem cx_ok {prog : Program} {w : World} {H : Heap} {mg mb : Str → Option Value} (X : (K w.params).In H) (g : H.Ns mainGlobals mg) (b : H.Ns builtinsNs mb) (nl : H.NoLimit) (bt : ∀ x : Str, x ≠ "__name__" → mb x = bootBuiltins x) : (cxOf prog w H mg mb).Ok where
  KIn := X
  g := g
  b := b
  nolimit := nl
  gcOk := fun x v h => (ns_sca (tab_all (K_gc w.params) h)).elim fun mv q => ⟨mv, mg_of X g q.1, q.2⟩
  faOk := fun x v h => mapK h fun a h1 h2 => h2 ▸ mg_of X g (Prod.mk.inj (tab_all (K_fa w.params) h1)).1
  keep := fun x v h => mapK h fun a h1 h2 => h2 ▸ (Prod.mk.inj (tab_all (K_fa w.params) h1)).2
  maOk := fun x a h => by
    obtain ⟨h1, h2⟩ := Prod.mk.inj (tab_all (K_ma w.params) h)
    obtain ⟨h2, h3⟩ := Prod.mk.inj h2
    exact ⟨h1, h2, h3⟩
  free := fun x h => mg_none_of X g (List.map_inj_left.mp (K_free w.params) x (by rcases h with h | h | h | h | h | h <;> subst h <;> simp [nmB]))
  tokOk := by
    have hl : (K w.params).lookup 102 = some ⟨.type "dict", none, .dict (tokEnt w.params).toArray 48, #[]⟩ := by kernel_rfl
    refine ⟨102, _, mg_of X g (show nsIn (K w.params) mainGlobals "EXACT_TOKEN_TYPES" = some (some (.ref 102)) by kernel_rfl), mapOf_K X hl (K_lits _ _ _ _ _), fun x i h => ?_⟩
    obtain ⟨mv, h1, h2⟩ := ns_sca (tab_all (K_tok w.params) h)
    obtain ⟨t, rfl⟩ := sca_int h2
    exact ⟨t, find_K hl h1⟩
  boot := bt
  cls := ⟨by kernel_rfl, by kernel_rfl⟩
  attr := fun x h => (Prod.mk.inj (List.map_inj_left.mp (K_attr w.params) x (by rcases h with h | h | h | h | h <;> subst h <;> simp [nmA]))).1


noncomputable def fdOf (f : Fp) (m : Value) (c : Nat) : FuncData := { name := f.name, qualname := f.qual, params := f.params, body := .stmts f.body, scope := f.scope, globals := 3, closure := [], defaults := .none, kwdefaults := .none, pyModule := m, code := .ref c }
section
variable {prog : Program} {w : World} {H : Heap} {mg mb : Str → Option Value}
theorem defIn1 {f : Fp} {m : Value} {c : Nat} {p : Str} (h : ((K w.params).lookup (c + 1), codeIn (K w.params) (.ref c) f.qual, f.scope.isCoroutine, f.scope.isGenerator, f.scope.kind) = (some (fnO f m c), true, false, false, .function))
    (hb : ∀ x, bindArgs (fdOf f m c) ⟨[x], []⟩ = pure [(p, x)]) : DefIn (cxOf prog w H mg mb) (.ref (c + 1)) [p] f.body f.scope.names := by
  obtain ⟨h1, h⟩ := Prod.mk.inj h
  obtain ⟨h2, h⟩ := Prod.mk.inj h
  obtain ⟨h3, h⟩ := Prod.mk.inj h
  obtain ⟨h4, h5⟩ := Prod.mk.inj h
  exact ⟨_, _, fdOf f m c, rfl, h1, rfl, rfl, rfl, rfl, rfl, rfl, h2, h3, h4, h5, fun ms e => (ln1 e).elim fun x q => q ▸ hb x⟩
theorem defIn2 {f : Fp} {m : Value} {c : Nat} {p q : Str} (h : ((K w.params).lookup (c + 1), codeIn (K w.params) (.ref c) f.qual, f.scope.isCoroutine, f.scope.isGenerator, f.scope.kind) = (some (fnO f m c), true, false, false, .function))
    (hb : ∀ x y, bindArgs (fdOf f m c) ⟨[x, y], []⟩ = pure [(p, x), (q, y)]) : DefIn (cxOf prog w H mg mb) (.ref (c + 1)) [p, q] f.body f.scope.names := by
  obtain ⟨h1, h⟩ := Prod.mk.inj h
  obtain ⟨h2, h⟩ := Prod.mk.inj h
  obtain ⟨h3, h⟩ := Prod.mk.inj h
  obtain ⟨h4, h5⟩ := Prod.mk.inj h
  exact ⟨_, _, fdOf f m c, rfl, h1, rfl, rfl, rfl, rfl, rfl, rfl, h2, h3, h4, h5, fun ms e => (ln2 e).elim fun x q => q.elim fun y q => q ▸ hb x y⟩
@[reducible] noncomputable def fEll : Fp := fp (top 3)
@[reducible] noncomputable def fCom : Fp := fp (top 4)
@[reducible] noncomputable def fIni : Fp := fpM 1 "Whitespace.__init__"
@[reducible] noncomputable def fRun : Fp := fpM 2 "Whitespace.longest_run_of_spaces"
@[reducible] noncomputable def fInd : Fp := fpM 3 "Whitespace.indent_level"
@[reducible] noncomputable def fLess : Fp := fpM 6 "Whitespace.less"
@[reducible] noncomputable def fEof : Fp := fp (top 58)
@[reducible] noncomputable def fLin : Fp := fp (top 60)
@[reducible] noncomputable def fClo : Fp := fp (top 61)
@[reducible] noncomputable def fHal : Fp := fp (top 62)
@[reducible] noncomputable def fRis : Fp := fp (top 63)
@[reducible] noncomputable def fSta : Fp := fp (top 64)
@[reducible] noncomputable def fOnc : Fp := fp (top 65)
@[reducible] noncomputable def fTwi : Fp := fp (top 66)
@[reducible] noncomputable def fLaw : Fp := fp (top 67)
theorem dEll : DefIn (cxOf prog w H mg mb) (.ref 28) ["want", "got"] fEll.body fEll.scope.names := defIn2 (f := fEll) (m := mDoc) (by kernel_rfl) fun _ _ => by kernel_rfl
theorem dCom : DefIn (cxOf prog w H mg mb) (.ref 35) ["line"] fCom.body fCom.scope.names := defIn1 (f := fCom) (m := mDoc) (by kernel_rfl) fun _ => by kernel_rfl
theorem dIni : DefIn (cxOf prog w H mg mb) (.ref 52) ["self", "ws"] fIni.body fIni.scope.names := defIn2 (f := fIni) (m := mTab) (by kernel_rfl) fun _ _ => by kernel_rfl
theorem dRun : DefIn (cxOf prog w H mg mb) (.ref 59) ["self"] fRun.body fRun.scope.names := defIn1 (f := fRun) (m := mTab) (by kernel_rfl) fun _ => by kernel_rfl
theorem dInd : DefIn (cxOf prog w H mg mb) (.ref 66) ["self", "tabsize"] fInd.body fInd.scope.names := defIn2 (f := fInd) (m := mTab) (by kernel_rfl) fun _ _ => by kernel_rfl
theorem dLess : DefIn (cxOf prog w H mg mb) (.ref 87) ["self", "other"] fLess.body fLess.scope.names := defIn2 (f := fLess) (m := mTab) (by kernel_rfl) fun _ _ => by kernel_rfl
theorem dEof : DefIn (cxOf prog w H mg mb) (.ref 111) ["x"] fEof.body fEof.scope.names := defIn1 (f := fEof) (m := mTok) (by kernel_rfl) fun _ => by kernel_rfl
theorem dLin : DefIn (cxOf prog w H mg mb) (.ref 118) ["depth", "sign"] fLin.body fLin.scope.names := defIn2 (f := fLin) (m := mLaw) (by kernel_rfl) fun _ _ => by kernel_rfl
theorem dClo : DefIn (cxOf prog w H mg mb) (.ref 125) ["page"] fClo.body fClo.scope.names := defIn1 (f := fClo) (m := mLaw) (by kernel_rfl) fun _ => by kernel_rfl
theorem dHal : DefIn (cxOf prog w H mg mb) (.ref 130) ["signs", "order"] fHal.body fHal.scope.names := defIn2 (f := fHal) (m := mLaw) (by kernel_rfl) fun _ _ => by kernel_rfl
theorem dRis : DefIn (cxOf prog w H mg mb) (.ref 137) ["signs", "many"] fRis.body fRis.scope.names := defIn2 (f := fRis) (m := mLaw) (by kernel_rfl) fun _ _ => by kernel_rfl
theorem dSta : DefIn (cxOf prog w H mg mb) (.ref 144) ["row", "order"] fSta.body fSta.scope.names := defIn2 (f := fSta) (m := mLaw) (by kernel_rfl) fun _ _ => by kernel_rfl
theorem dOnc : DefIn (cxOf prog w H mg mb) (.ref 151) ["signs", "order"] fOnc.body fOnc.scope.names := defIn2 (f := fOnc) (m := mLaw) (by kernel_rfl) fun _ _ => by kernel_rfl
theorem dTwi : DefIn (cxOf prog w H mg mb) (.ref 156) ["signs", "order"] fTwi.body fTwi.scope.names := defIn2 (f := fTwi) (m := mLaw) (by kernel_rfl) fun _ _ => by kernel_rfl
theorem dLaw : DefIn (cxOf prog w H mg mb) (.ref 161) ["script"] fLaw.body fLaw.scope.names := defIn1 (f := fLaw) (m := mLaw) (by kernel_rfl) fun _ => by kernel_rfl
theorem cls_ok : ClsOk (cxOf prog w H mg mb) 52 := by
  have t := K_attr w.params
  have tk : ∀ x ∈ nmA, takerIn (K w.params) 97 x = some none := fun x m => (Prod.mk.inj (List.map_inj_left.mp t x m)).2
  exact ⟨by kernel_rfl, by kernel_rfl, by kernel_rfl, ⟨by kernel_rfl, by kernel_rfl, by kernel_rfl⟩, tk _ (by simp [nmA]), tk _ (by simp [nmA]), tk _ (by simp [nmA]), tk _ (by simp [nmA]), tk _ (by simp [nmA])⟩
/-- what the class holds -/
noncomputable def cvF (n x : Str) : Option S := if n = "Whitespace" then cvTab.lookup x else none
theorem cv_ok (X : (K w.params).In H) (g : H.Ns mainGlobals mg) (n x : Str) (v : S) (h : cvF n x = some v) : ClsVal (cxOf prog w H mg mb) n x v := by
  refine iteK h fun e h => ?_
  subst e
  have := tab_all (K_cv w.params) h
  refine ⟨.type "type", ?_⟩
  refine mapK this fun r h1 h2 => ?_
  cases r with
  | val mv =>
    obtain ⟨h3, h4⟩ := Prod.mk.inj h2
    exact ⟨mv, mg_of X g (show nsIn (K w.params) mainGlobals "Whitespace" = some (some (.ref 97)) by kernel_rfl), (by show readsIn (K w.params) 97 (.type "type") = true; kernel_rfl), h1, h3, h4⟩
  | _ => exact absurd (Prod.mk.inj h2).1 (by decide)
end
/-- the parameters of a level -/
@[reducible] noncomputable def pmOf (F M : Fn) : Pm := ⟨fun x => gcTab.lookup x, fun x => tokTab.lookup x, cvF, F, M⟩
theorem pm_ok {prog : Program} {w : World} {H : Heap} {mg mb : Str → Option Value} (o : (cxOf prog w H mg mb).Ok) {d : Nat} {F M : Fn} (fs : FSound (cxOf prog w H mg mb) d F M) : PmOk (cxOf prog w H mg mb) d (pmOf F M) := ⟨o, rfl, rfl, fun n x v h => cv_ok o.KIn o.g n x v h, fs⟩


noncomputable def Out.val : Out → Option V
  | .ret v => some v
  | _ => none
theorem val_eq {o : Out} {v : V} (h : o.val = some v) : o = .ret v := by
  cases o with
  | ret v' => injection h with h; rw [h]
  | _ => injection h
/-- a def is run -/
noncomputable def runF (F M : Fn) (f : Fp) (ps : List Str) (vs : List V) : Option V := if vs.length = ps.length then (run (pmOf F M) f.scope.names 60 ⟨ps.zip vs, []⟩ f.body).bind Out.val else none
section
variable {prog : Program} {w : World} {H : Heap} {mg mb : Str → Option Value} {d : Nat} {F M : Fn}
theorem call_run (o : (cxOf prog w H mg mb).Ok) (fs : FSound (cxOf prog w H mg mb) d F M) {g : Value} {f : Fp} {ps : List Str} (D : DefIn (cxOf prog w H mg mb) g ps f.body f.scope.names) (hn : nameOk f.scope.names ps = true)
    {vs : List V} {v : V} (h : runF F M f ps vs = some v) : CallOk (cxOf prog w H mg mb) (d + 1) g vs v :=
  iteK h fun hl h => bindK h fun o' h1 h2 => call_ok (pm_ok o fs) D hn hl (val_eq h2 ▸ h1)
end
@[reducible] noncomputable def F0 : Fn := fun _ _ => none


/-! steps of a run -/
structure Lp where
  t : Expr
  i : Expr
  b : List Stmt
  e : List Stmt
noncomputable def lp : Stmt → Lp
  | .For t i b _ _ => ⟨t, i, b, []⟩
  | .While t b _ _ => ⟨t, t, b, []⟩
  | .If t a b _ => ⟨t, t, a, b⟩
  | .Assign _ e _ => ⟨e, e, [], []⟩
  | .Return (some e) _ => ⟨e, e, [], []⟩
  | _ => ⟨.Constant .none 0 default, .Constant .none 0 default, [], []⟩
noncomputable def hd (l : List Stmt) : Stmt := l.headD (.Pass default)
section
variable {P : Pm} {sc : Sc} {n : Nat} {r r' : Rs} {l : List Stmt} {o : Out}
theorem run_step (hl : l.isEmpty = false) (h1 : stepS (evs P n) sc (run P sc n) n r (hd l) = some (.next r')) (h2 : run P sc n r' l.tail = some o) : run P sc (n + 1) r l = some o := by
  cases l with
  | nil => cases hl
  | cons s l => show (stepS (evs P n) sc (run P sc n) n r s).bind _ = _; rw [show stepS (evs P n) sc (run P sc n) n r s = some (.next r') from h1]; exact h2
theorem run_ret (hl : l.isEmpty = false) {v : V} (h1 : stepS (evs P n) sc (run P sc n) n r (hd l) = some (.ret v)) : run P sc (n + 1) r l = some (.ret v) := by
  cases l with
  | nil => cases hl
  | cons s l => show (stepS (evs P n) sc (run P sc n) n r s).bind _ = _; rw [show stepS (evs P n) sc (run P sc n) n r s = some (.ret v) from h1]; rfl
end
/-- a loop, by what holds at its head -/
theorem forGo_inv {put : V → Rs → Option Rs} {body : Rs → Option Out} (I : List V → Rs → Prop) (h : ∀ v vs r, I (v :: vs) r → ∃ r₁ r₂, put v r = some r₁ ∧ body r₁ = some (.next r₂) ∧ I vs r₂) : ∀ vs r, I vs r → ∃ r', forGo put body vs r = some (.next r') ∧ I [] r'
  | [], r, i => ⟨r, rfl, i⟩
  | v :: vs, r, i => by
    obtain ⟨r₁, r₂, h1, h2, i'⟩ := h v vs r i
    obtain ⟨r', h3, i''⟩ := forGo_inv I h vs r₂ i'
    refine ⟨r', ?_, i''⟩
    show (put v r).bind _ = _
    rw [h1]
    show (body r₁).bind _ = _
    rw [h2]
    exact h3

@[reducible] noncomputable def scC : Sc := fClo.scope.names
@[reducible] noncomputable def sFor := hd (fClo.body.tail.tail.tail)
@[reducible] noncomputable def bd1 := (lp sFor).b
section
variable (F M : Fn) (pg : V) (l : Str) (k : Int) (row : List S) (L R : V) (ks : List Int) (ws : List WS) (rs : List S) (X : Rs → List Stmt → Option Out) (w : WS)
theorem c1 (tl : Rho) : (evs (pmOf F M) 55).e scC (("page", pg) :: ("line", .s l) :: tl) (lp (hd bd1)).i = (((if l.length ≤ 9999 then some (V.s (Txt.strip l)) else none).or none).bind fun k => (k.asI.bind fun j => none).or (k.asS.bind fun x => (tokTab.lookup x).map V.i)) := by kernel_rfl
theorem c1' : stepS (evs (pmOf F M) 55) scC X 55 ⟨[("page", pg), ("line", .s l)], [("row", .list row), ("lines", L), ("remarks", R)]⟩ (hd bd1) =
  ((((evs (pmOf F M) 55).e scC [("page", pg), ("line", .s l)] (lp (hd bd1)).i).bind fun v => some ⟨[("page", pg), ("line", .s l), ("symbol", v)], [("row", .list row), ("lines", L), ("remarks", R)]⟩).map Out.next).or none := by kernel_rfl
theorem c1'' (b : V) : stepS (evs (pmOf F M) 55) scC X 55 ⟨[("page", pg), ("line", .s l), ("symbol", b)], [("row", .list row), ("lines", L), ("remarks", R)]⟩ (hd bd1) =
  ((((evs (pmOf F M) 55).e scC [("page", pg), ("line", .s l), ("symbol", b)] (lp (hd bd1)).i).bind fun v => some ⟨[("page", pg), ("line", .s l), ("symbol", v)], [("row", .list row), ("lines", L), ("remarks", R)]⟩).map Out.next).or none := by kernel_rfl
theorem c2 : stepS (evs (pmOf F M) 54) scC X 54 ⟨[("page", pg), ("line", .s l), ("symbol", .i k)], [("row", .list row), ("lines", L), ("remarks", R)]⟩ (hd bd1.tail) =
  (if true = true ∧ row.length + 1 ≤ 9999 then some (Rs.mk [("page", pg), ("line", .s l), ("symbol", .i k)] [("row", .list (row ++ [.int k])), ("lines", L), ("remarks", R)]) else none).map Out.next := by kernel_rfl
theorem c3 : stepS (evs (pmOf F M) 53) scC X 53 ⟨[("page", pg), ("line", .s l), ("symbol", .i k)], [("row", .list row), ("lines", .dw ks ws), ("remarks", R)]⟩ (hd bd1.tail.tail) =
  (((((F "Whitespace" [.s l]).or none).bind fun v => (storeD (.dw ks ws) k v).map fun t' => Rs.mk [("page", pg), ("line", .s l), ("symbol", .i k)] [("row", .list row), ("lines", t'), ("remarks", R)]).or none).map Out.next).or none := by kernel_rfl
theorem c3' : stepS (evs (pmOf F M) 53) scC X 53 ⟨[("page", pg), ("line", .s l), ("symbol", .i k)], [("row", .list row), ("lines", .ds ks rs), ("remarks", R)]⟩ (hd bd1.tail.tail) =
  (((((F "Whitespace" [.s l]).or none).bind fun v => (storeD (.ds ks rs) k v).map fun t' => Rs.mk [("page", pg), ("line", .s l), ("symbol", .i k)] [("row", .list row), ("lines", t'), ("remarks", R)]).or none).map Out.next).or none := by kernel_rfl
theorem c4 : stepS (evs (pmOf F M) 52) scC X 52 ⟨[("page", pg), ("line", .s l), ("symbol", .i k)], [("row", .list row), ("lines", L), ("remarks", .ds ks rs)]⟩ (hd bd1.tail.tail.tail) =
  (((((F "_comment_line" [.s l]).or none).bind fun v => (storeD (.ds ks rs) k v).map fun t' => Rs.mk [("page", pg), ("line", .s l), ("symbol", .i k)] [("row", .list row), ("lines", L), ("remarks", t')]).or none).map Out.next).or none := by kernel_rfl
end
@[reducible] noncomputable def sF2 := hd (fClo.body.tail.tail.tail.tail.tail.tail)
@[reducible] noncomputable def sWh := hd (lp sF2).b
section
variable (F M : Fn) (pg ln : V) (l : Str) (s : Int) (row pile cl : List S) (L R y : V) (ks : List Int) (ws : List WS) (rs : List S) (X : Rs → List Stmt → Option Out) (w : WS)
theorem d0 : stepS (evs (pmOf F M) 55) scC X 55 ⟨[("page", pg), ("line", ln), ("symbol", y)], [("row", .list row), ("lines", L), ("remarks", R)]⟩ (hd fClo.body.tail.tail.tail.tail) = some (.next ⟨[("page", pg), ("line", ln), ("symbol", y)], [("row", .list row), ("lines", L), ("remarks", R), ("pile", .list [])]⟩) := by kernel_rfl
theorem d1 : stepS (evs (pmOf F M) 54) scC X 54 ⟨[("page", pg), ("line", ln), ("symbol", y)], [("row", .list row), ("lines", L), ("remarks", R), ("pile", .list [])]⟩ (hd fClo.body.tail.tail.tail.tail.tail) = some (.next ⟨[("page", pg), ("line", ln), ("symbol", y)], [("row", .list row), ("lines", L), ("remarks", R), ("pile", .list []), ("closed", .list [])]⟩) := by kernel_rfl
theorem d2 : stepS (evs (pmOf F M) 53) scC X 53 ⟨[("page", pg), ("line", ln), ("symbol", y)], [("row", .list row), ("lines", L), ("remarks", R), ("pile", .list []), ("closed", .list [])]⟩ sF2 =
  ((binop .Add (.list row) (.list [.int 0])).bind fun v => if true = true ∨ v.asS.isNone = true then (itemsV v).map (fun l => l.map V.sc) else none).bind fun items =>
    forGo (putT scC (lp sF2).t) (fun r => X r (lp sF2).b) items ⟨[("page", pg), ("line", ln), ("symbol", y), ("row", .list row)], [("lines", L), ("remarks", R), ("pile", .list []), ("closed", .list [])]⟩ := by kernel_rfl
theorem d3 : putT scC (lp sF2).t (.i s) ⟨[("page", pg), ("line", ln), ("symbol", y), ("row", .list row)], [("lines", L), ("remarks", R), ("pile", .list pile), ("closed", .list cl)]⟩ = some ⟨[("page", pg), ("line", ln), ("symbol", .i s), ("row", .list row)], [("lines", L), ("remarks", R), ("pile", .list pile), ("closed", .list cl)]⟩ := by kernel_rfl
theorem d4 (r : Rs) : stepS (evs (pmOf F M) 52) scC X 52 r sWh = whileGo (fun r => (evs (pmOf F M) 52).t scC (r.ω ++ r.ρ) (lp sWh).t) (fun r => X r (lp sWh).b) 52 r := by kernel_rfl
theorem d5 : (evs (pmOf F M) 52).t scC [("lines", .dw ks ws), ("remarks", R), ("pile", .list pile), ("closed", .list cl), ("page", pg), ("line", ln), ("symbol", .i s), ("row", .list row)] (lp sWh).t =
  (cmpop .NotEq (.list pile) (.list [])).bind fun a => if a = true then (((F "ISEOF" [.i s]).or none).bind truth).bind fun a => if a = true then some true else
    ((((itemv (.dw ks ws) s).or none).bind fun v => some [v]).bind fun vs => ((((itemv (.list pile) (-1)).or none).bind fun k => (k.asI.bind fun j => itemv (.dw ks ws) j).or (k.asS.bind fun x => none)).bind fun v => (v.asS.bind fun x => none).or (v.asW.bind fun w => M "less" (.ws w :: vs)))).bind fun a => cmpop .Is a (.t false) else some false := by kernel_rfl
theorem d6 : stepS (evs (pmOf F M) 51) scC X 51 ⟨[("page", pg), ("line", ln), ("symbol", .i s), ("row", .list row)], [("lines", L), ("remarks", .ds ks rs), ("pile", .list pile), ("closed", .list cl)]⟩ (hd (lp sWh).b) =
  ((if (true = true ∧ cl.length + 1 ≤ 9999) ∧ (true = true ∧ pile.length + 0 ≤ 9999) ∧ (true = true ∧ true = true) ∧ ("remarks" : Str) ≠ "pile" ∧ ("closed" : Str) ≠ "pile" then (pile[pile.length - 1]?).bind fun k => (V.sc k).asI.bind fun j => (lookI ks rs j).map fun x =>
    Rs.mk [("page", pg), ("line", ln), ("symbol", .i s), ("row", .list row)] [("lines", L), ("remarks", .ds ks rs), ("pile", .list (pile.eraseIdx (pile.length - 1))), ("closed", .list (cl ++ [x]))] else none).or (if true = true ∧ cl.length + 1 ≤ 9999 then none else none)).map Out.next := by kernel_rfl
theorem d7 : stepS (evs (pmOf F M) 51) scC X 51 ⟨[("page", pg), ("line", ln), ("symbol", .i s), ("row", .list row)], [("lines", L), ("remarks", R), ("pile", .list pile), ("closed", .list cl)]⟩ (hd (lp sF2).b.tail) =
  (if true = true ∧ pile.length + 1 ≤ 9999 then some (Rs.mk [("page", pg), ("line", ln), ("symbol", .i s), ("row", .list row)] [("lines", L), ("remarks", R), ("pile", .list (pile ++ [.int s])), ("closed", .list cl)]) else none).map Out.next := by kernel_rfl
theorem d8 : stepS (evs (pmOf F M) 52) scC X 52 ⟨[("page", pg), ("line", ln), ("symbol", .i s), ("row", .list row)], [("lines", L), ("remarks", R), ("pile", .list pile), ("closed", .list cl)]⟩ (hd fClo.body.tail.tail.tail.tail.tail.tail.tail) = some (.ret (.list cl)) := by kernel_rfl
end

/-- a line of a page, and what it comes to -/
structure Ln where
  l : Str
  k : Int
  w : WS
  rm : Str
structure LnOk (F : Fn) (x : Ln) : Prop where
  len : x.l.length ≤ 9999
  tok : tokTab.lookup (Txt.strip x.l) = some x.k
  ws : F "Whitespace" [.s x.l] = some (.ws x.w)
  com : F "_comment_line" [.s x.l] = some (.s x.rm)
theorem forGo_next {put : V → Rs → Option Rs} {body : Rs → Option Out} {v : V} {vs : List V} {r r₁ r₂ : Rs} (h1 : put v r = some r₁) (h2 : body r₁ = some (.next r₂)) : forGo put body (v :: vs) r = forGo put body vs r₂ := by
  show (put v r).bind _ = _
  rw [h1]
  show (body r₁).bind _ = _
  rw [h2]; rfl
section
variable {F M : Fn} {pg ln y : V} {row : List S} {ks : List Int} {ws : List WS} {rs : List S} {L R : V}
theorem sym_ok {x : Ln} (o : LnOk F x) (tl : Rho) : (evs (pmOf F M) 55).e scC (("page", pg) :: ("line", .s x.l) :: tl) (lp (hd bd1)).i = some (.i x.k) := by
  rw [c1, if_pos o.len]
  show ((none).or (Option.map V.i (tokTab.lookup (Txt.strip x.l)))) = _
  rw [o.tok]; rfl
theorem page_fst {x : Ln} (o : LnOk F x) : run (pmOf F M) scC 56 ⟨[("page", pg), ("line", .s x.l)], [("row", .list []), ("lines", .ds [] []), ("remarks", .ds [] [])]⟩ bd1 = some (.next ⟨[("page", pg), ("line", .s x.l), ("symbol", .i x.k)], [("row", .list [.int x.k]), ("lines", .dw [x.k] [x.w]), ("remarks", .ds [x.k] [.str x.rm])]⟩) := by
  refine run_step (by kernel_rfl) (by rw [c1', sym_ok o]; rfl) (run_step (by kernel_rfl) (c2 _ _ _ _ _ _ _ _ _) (run_step (by kernel_rfl) (by rw [c3', o.ws]; rfl) (run_step (by kernel_rfl) (by rw [c4, o.com]; rfl) (by kernel_rfl))))
theorem page_nxt {x : Ln} (o : LnOk F x) (hr : row.length ≤ 99) (hk : ks.length ≤ 99) : run (pmOf F M) scC 56 ⟨[("page", pg), ("line", .s x.l), ("symbol", y)], [("row", .list row), ("lines", .dw ks ws), ("remarks", .ds ks rs)]⟩ bd1 =
    some (.next ⟨[("page", pg), ("line", .s x.l), ("symbol", .i x.k)], [("row", .list (row ++ [.int x.k])), ("lines", .dw (x.k :: ks) (x.w :: ws)), ("remarks", .ds (x.k :: ks) (.str x.rm :: rs))]⟩) := by
  have hk' : ks.length < 900 := Nat.lt_of_le_of_lt hk (by decide)
  have e1 : storeD (.dw ks ws) x.k (.ws x.w) = some (.dw (x.k :: ks) (x.w :: ws)) := by show (if ks.length < 900 then _ else none) = _; rw [if_pos hk']; rfl
  have e2 : storeD (.ds ks rs) x.k (.s x.rm) = some (.ds (x.k :: ks) (.str x.rm :: rs)) := by show (Option.or (if ks.length < 900 then _ else none) none) = _; rw [if_pos hk']; rfl
  refine run_step (by kernel_rfl) (by rw [c1'', sym_ok o]; rfl) (run_step (by kernel_rfl) (by rw [c2, if_pos ⟨rfl, by omega⟩]; rfl) (run_step (by kernel_rfl) (by rw [c3, o.ws]; show (Option.or (Option.map Out.next (Option.or (Option.map _ (storeD _ _ _)) none)) none) = _; rw [e1]; rfl) (run_step (by kernel_rfl) (by rw [c4, o.com]; show (Option.or (Option.map Out.next (Option.or (Option.map _ (storeD _ _ _)) none)) none) = _; rw [e2]; rfl) (by kernel_rfl))))
theorem put_page (l : Str) (b : List Str) : putT scC (lp sFor).t (.s l) ⟨[("page", pg), ("line", ln), ("symbol", y)], [("row", .list row), ("lines", L), ("remarks", R)]⟩ = some ⟨[("page", pg), ("line", .s l), ("symbol", y)], [("row", .list row), ("lines", L), ("remarks", R)]⟩ := by kernel_rfl
theorem put_page0 (l : Str) : putT scC (lp sFor).t (.s l) ⟨[("page", pg)], [("row", .list row), ("lines", L), ("remarks", R)]⟩ = some ⟨[("page", pg), ("line", .s l)], [("row", .list row), ("lines", L), ("remarks", R)]⟩ := by kernel_rfl
theorem page_loop : ∀ (its : List Ln) {ln y row ks ws rs}, (∀ x ∈ its, LnOk F x) → row.length + its.length ≤ 99 → ks.length + its.length ≤ 99 → ∃ ln' y', forGo (putT scC (lp sFor).t) (fun r => run (pmOf F M) scC 56 r bd1) (its.map fun x => .s x.l) ⟨[("page", pg), ("line", ln), ("symbol", y)], [("row", .list row), ("lines", .dw ks ws), ("remarks", .ds ks rs)]⟩ =
    some (.next ⟨[("page", pg), ("line", ln'), ("symbol", y')], [("row", .list (row ++ its.map fun x => .int x.k)), ("lines", .dw ((its.map (·.k)).reverse ++ ks) ((its.map (·.w)).reverse ++ ws)), ("remarks", .ds ((its.map (·.k)).reverse ++ ks) ((its.map fun x => S.str x.rm).reverse ++ rs))]⟩) := by
  intro its
  induction its with
  | nil => intro ln y row ks ws rs _ _ _; exact ⟨ln, y, by rw [List.map_nil, List.map_nil, List.append_nil]; rfl⟩
  | cons x its ih =>
    intro ln y row ks ws rs h h1 h2
    rw [List.length_cons] at h1 h2
    obtain ⟨ln', y', e⟩ := ih (ln := .s x.l) (y := .i x.k) (row := row ++ [.int x.k]) (ks := x.k :: ks) (ws := x.w :: ws) (rs := .str x.rm :: rs) (fun z m => h z (List.mem_cons_of_mem _ m)) (by rw [List.length_append]; show row.length + 1 + _ ≤ _; omega) (by rw [List.length_cons]; omega)
    refine ⟨ln', y', (forGo_next (put_page x.l []) (page_nxt (h x (List.mem_cons_self ..)) (by omega) (by omega))).trans (e.trans ?_)⟩
    simp only [List.map_cons, List.reverse_cons, List.append_assoc, List.singleton_append]
end



/-! the pile -/
noncomputable def popW (s : Int) (ls : Int → Int → Bool) (rm : Int → S) : List Int → List S → List Int × List S
  | [], cl => ([], cl)
  | t :: ts, cl => bif (s == 0 || !ls t s) then popW s ls rm ts (cl ++ [rm t]) else (t :: ts, cl)
noncomputable def pileW (ls : Int → Int → Bool) (rm : Int → S) : List Int → List Int → List S → List S
  | [], ts, cl => cl
  | s :: ss, ts, cl => pileW ls rm ss (s :: (popW s ls rm ts cl).1) (popW s ls rm ts cl).2
@[reducible] noncomputable def pv (ts : List Int) : List S := ts.reverse.map .int
theorem allInt_map (l : List Int) : allInt (l.map .int) = some l := by
  induction l with
  | nil => rfl
  | cons x l ih => show (allInt (l.map .int)).map (x :: ·) = _; rw [ih]; rfl
theorem ne_nil (m : Int) (l : List Int) : cmpop .NotEq (.list (.int m :: l.map .int)) (.list []) = some true := by
  show Option.map (!·) (Option.or none (Option.bind (Option.map (m :: ·) (allInt (l.map .int))) fun x => some (decide (x = [])))) = _
  rw [allInt_map]; rfl
theorem pv_cons (t : Int) (ts : List Int) : pv (t :: ts) = pv ts ++ [.int t] := by unfold pv; rw [List.reverse_cons, List.map_append]; rfl
theorem pv_ne (t : Int) (ts : List Int) : cmpop .NotEq (.list (pv (t :: ts))) (.list []) = some true := by
  unfold pv
  cases e : (t :: ts).reverse with
  | nil => exact absurd (List.reverse_eq_nil_iff.mp e) (List.cons_ne_nil _ _)
  | cons m l => exact ne_nil m l
theorem pv_len (ts : List Int) : (pv ts).length = ts.length := by unfold pv; rw [List.length_map, List.length_reverse]
theorem pv_last (t : Int) (ts : List Int) : (pv (t :: ts))[(pv (t :: ts)).length - 1]? = some (.int t) := by
  rw [pv_cons, List.length_append, List.getElem?_append_right (by simp)]; simp
theorem place_last (n : Nat) : place (n + 1) (-1) = some n := by
  unfold place
  rw [if_neg (by decide), if_pos ⟨by decide, by decide, Int.neg_le_neg (Int.ofNat_le.mpr (Nat.le_add_left 1 n))⟩]
  congr 1
  show (-1 + ((n : Int) + 1)).toNat = n
  rw [Int.add_comm, Int.add_neg_cancel_right]; rfl
theorem pv_top (t : Int) (ts : List Int) : itemv (.list (pv (t :: ts))) (-1) = some (.i t) := by
  have h := pv_last t ts
  have hl := pv_len (t :: ts)
  rw [List.length_cons] at hl
  show Option.or (Option.map V.sc ((place (pv (t :: ts)).length (-1)).bind fun j => (pv (t :: ts))[j]?)) none = _
  have hp : place (pv (t :: ts)).length (-1) = some ((pv (t :: ts)).length - 1) := by
    rw [hl]; exact place_last _
  rw [hp]
  show Option.or (Option.map V.sc ((pv (t :: ts))[(pv (t :: ts)).length - 1]?)) none = _
  rw [h]; rfl
theorem pv_drop (t : Int) (ts : List Int) : (pv (t :: ts)).eraseIdx ((pv (t :: ts)).length - 1) = pv ts := by
  rw [pv_cons, List.length_append, List.eraseIdx_append_of_length_le (by simp)]; simp

/-- what the tables of a page hold -/
structure Tabs (F M : Fn) (syms : List Int) (ks : List Int) (ws : List WS) (rs : List S) (wo : Int → WS) (rm : Int → S) (ls : Int → Int → Bool) : Prop where
  w : ∀ t ∈ syms, lookI ks ws t = some (wo t)
  r : ∀ t ∈ syms, lookI ks rs t = some (rm t)
  l : ∀ t ∈ syms, ∀ s ∈ syms, M "less" [.ws (wo t), .ws (wo s)] = some (.t (ls t s))
  e : ∀ s, F "ISEOF" [.i s] = some (.t (s == 0))
@[reducible] noncomputable def stP (pg ln : V) (row : List S) (ks : List Int) (ws : List WS) (rs : List S) (s : V) (ts : List Int) (cl : List S) : Rs :=
  ⟨[("page", pg), ("line", ln), ("symbol", s), ("row", .list row)], [("lines", .dw ks ws), ("remarks", .ds ks rs), ("pile", .list (pv ts)), ("closed", .list cl)]⟩
section
variable {F M : Fn} {pg ln : V} {row : List S} {syms ks : List Int} {ws : List WS} {rs : List S} {wo : Int → WS} {rm : Int → S} {ls : Int → Int → Bool}
theorem look_w {s : Int} {w : WS} (h : lookI ks ws s = some w) : itemv (.dw ks ws) s = some (.ws w) := by show Option.map V.ws (lookI ks ws s) = _; rw [h]; rfl
theorem test_top (T : Tabs F M syms ks ws rs wo rm ls) {s t : Int} {ts : List Int} {cl : List S} (hs : s = 0 ∨ s ∈ syms) (ht : t ∈ syms) :
    (evs (pmOf F M) 52).t scC ((stP pg ln row ks ws rs (.i s) (t :: ts) cl).ω ++ (stP pg ln row ks ws rs (.i s) (t :: ts) cl).ρ) (lp sWh).t = some (s == 0 || !ls t s) := by
  refine (d5 F M pg ln s row _ cl (.ds ks rs) ks ws).trans ?_
  rw [pv_ne, T.e s]
  show (if (s == 0) = true then some true else _) = _
  cases h0 : s == 0 with
  | true => rfl
  | false =>
    have hs : s ∈ syms := hs.resolve_left fun q => by rw [q] at h0; cases h0
    rw [look_w (T.w s hs), pv_top]
    show Option.bind (Option.bind (Option.or (itemv (.dw ks ws) t) none) fun v => (v.asS.bind fun x => (none : Option V)).or (v.asW.bind fun w => M "less" (.ws w :: [.ws (wo s)]))) (fun a => cmpop .Is a (.t false)) = _
    rw [look_w (T.w t ht)]
    show Option.bind (M "less" [.ws (wo t), .ws (wo s)]) (fun a => cmpop .Is a (.t false)) = _
    rw [T.l t ht s hs]
    cases ls t s <;> rfl
theorem while_go (T : Tabs F M syms ks ws rs wo rm ls) {s : Int} (hs : s = 0 ∨ s ∈ syms) : ∀ (ts : List Int) (n : Nat) (cl : List S), ts.length < n → (∀ t ∈ ts, t ∈ syms) → cl.length + ts.length ≤ 999 →
    whileGo (fun r => (evs (pmOf F M) 52).t scC (r.ω ++ r.ρ) (lp sWh).t) (fun r => run (pmOf F M) scC 52 r (lp sWh).b) n (stP pg ln row ks ws rs (.i s) ts cl) = some (.next (stP pg ln row ks ws rs (.i s) (popW s ls rm ts cl).1 (popW s ls rm ts cl).2)) := by
  intro ts
  induction ts with
  | nil =>
    intro n cl hn _ _
    cases n with
    | zero => cases hn
    | succ n =>
      show ((evs (pmOf F M) 52).t scC ((stP pg ln row ks ws rs (.i s) [] cl).ω ++ (stP pg ln row ks ws rs (.i s) [] cl).ρ) (lp sWh).t).bind _ = _
      rw [show (evs (pmOf F M) 52).t scC ((stP pg ln row ks ws rs (.i s) [] cl).ω ++ (stP pg ln row ks ws rs (.i s) [] cl).ρ) (lp sWh).t = some false from (d5 F M pg ln s row [] cl (.ds ks rs) ks ws).trans (by kernel_rfl)]
      rfl
  | cons t ts ih =>
    intro n cl hn hm hl
    rw [List.length_cons] at hn hl
    cases n with
    | zero => cases hn
    | succ n =>
      have ht := hm t (List.mem_cons_self ..)
      show ((evs (pmOf F M) 52).t scC ((stP pg ln row ks ws rs (.i s) (t :: ts) cl).ω ++ (stP pg ln row ks ws rs (.i s) (t :: ts) cl).ρ) (lp sWh).t).bind _ = _
      rw [test_top T hs ht]
      unfold popW
      cases hb : (s == 0 || !ls t s) with
      | false => rfl
      | true =>
        show (run (pmOf F M) scC 52 (stP pg ln row ks ws rs (.i s) (t :: ts) cl) (lp sWh).b).bind _ = _
        have e : run (pmOf F M) scC 52 (stP pg ln row ks ws rs (.i s) (t :: ts) cl) (lp sWh).b = some (.next (stP pg ln row ks ws rs (.i s) ts (cl ++ [rm t]))) := by
          refine run_step (r' := stP pg ln row ks ws rs (.i s) ts (cl ++ [rm t])) (by kernel_rfl) ((d6 F M pg ln s row _ cl (.dw ks ws) ks rs _).trans ?_) (by kernel_rfl)
          rw [pv_last, pv_drop, if_pos ⟨⟨rfl, by omega⟩, ⟨rfl, by rw [pv_len]; show ts.length + 1 + 0 ≤ _; omega⟩, ⟨rfl, rfl⟩, by decide, by decide⟩]
          show Option.map Out.next (Option.or (Option.map _ (lookI ks rs t)) _) = _
          rw [T.r t ht]; rfl
        rw [e]
        exact ih n (cl ++ [rm t]) (by omega) (fun z m => hm z (List.mem_cons_of_mem _ m)) (by rw [List.length_append]; show cl.length + 1 + _ ≤ _; omega)

theorem popW_len (s : Int) : ∀ (ts : List Int) (cl : List S), (popW s ls rm ts cl).1.length ≤ ts.length ∧ (popW s ls rm ts cl).2.length + (popW s ls rm ts cl).1.length = cl.length + ts.length ∧ ∀ t ∈ (popW s ls rm ts cl).1, t ∈ ts := by
  intro ts
  induction ts with
  | nil => intro cl; exact ⟨Nat.le_refl _, rfl, fun _ m => m⟩
  | cons t ts ih =>
    intro cl
    unfold popW
    cases (s == 0 || !ls t s) with
    | false => exact ⟨Nat.le_refl _, rfl, fun _ m => m⟩
    | true =>
      obtain ⟨h1, h2, h3⟩ := ih (cl ++ [rm t])
      refine ⟨Nat.le_succ_of_le h1, h2.trans ?_, fun z m => List.mem_cons_of_mem _ (h3 z m)⟩
      rw [List.length_append]; show cl.length + 1 + ts.length = cl.length + (ts.length + 1); omega
theorem pile_body (T : Tabs F M syms ks ws rs wo rm ls) {s : Int} {ts : List Int} {cl : List S} (hs : s = 0 ∨ s ∈ syms) (hm : ∀ t ∈ ts, t ∈ syms) (hl : cl.length + ts.length ≤ 40) :
    run (pmOf F M) scC 53 (stP pg ln row ks ws rs (.i s) ts cl) (lp sF2).b = some (.next (stP pg ln row ks ws rs (.i s) (s :: (popW s ls rm ts cl).1) (popW s ls rm ts cl).2)) := by
  obtain ⟨h1, h2, _⟩ := popW_len (ls := ls) (rm := rm) s ts cl
  refine run_step (r' := stP pg ln row ks ws rs (.i s) (popW s ls rm ts cl).1 (popW s ls rm ts cl).2) (by kernel_rfl) ((d4 F M _ _).trans (while_go T hs ts 52 cl (by omega) hm (by omega)))
    (run_step (r' := stP pg ln row ks ws rs (.i s) (s :: (popW s ls rm ts cl).1) (popW s ls rm ts cl).2) (by kernel_rfl) ((d7 F M pg ln s row _ _ _ _ _).trans ?_) (by kernel_rfl))
  rw [if_pos ⟨rfl, by rw [pv_len]; omega⟩, ← pv_cons]; rfl
theorem pile_loop (T : Tabs F M syms ks ws rs wo rm ls) : ∀ (ss ts : List Int) (cl : List S) {y : V}, (∀ s ∈ ss, s = 0 ∨ s ∈ syms) → (∀ s ∈ ss.dropLast, s ∈ syms) → (∀ t ∈ ts, t ∈ syms) → cl.length + ts.length + ss.length ≤ 40 →
    ∃ r' ts', forGo (putT scC (lp sF2).t) (fun r => run (pmOf F M) scC 53 r (lp sF2).b) (ss.map .i) (stP pg ln row ks ws rs y ts cl) = some (.next r') ∧ (r' = stP pg ln row ks ws rs y ts cl ∧ ss = [] ∨ ∃ s, r' = stP pg ln row ks ws rs (.i s) ts' (pileW ls rm ss ts cl)) := by
  intro ss
  induction ss with
  | nil => intro ts cl y _ _ _ _; exact ⟨_, ts, rfl, .inl ⟨rfl, rfl⟩⟩
  | cons s ss ih =>
    intro ts cl y h1 h2 h3 hl
    rw [List.length_cons] at hl
    obtain ⟨k1, k2, k3⟩ := popW_len (ls := ls) (rm := rm) s ts cl
    have e := forGo_next (body := fun r => run (pmOf F M) scC 53 r (lp sF2).b) (vs := ss.map .i) (d3 pg ln s row (pv ts) cl (.dw ks ws) (.ds ks rs) y) (pile_body (F := F) (M := M) (pg := pg) (ln := ln) (row := row) (s := s) (ts := ts) (cl := cl) T (h1 s (List.mem_cons_self ..)) h3 (by omega))
    cases ss with
    | nil => exact ⟨_, s :: (popW s ls rm ts cl).1, e, .inr ⟨s, rfl⟩⟩
    | cons s' ss =>
      obtain ⟨r', ts', e', q⟩ := ih (s :: (popW s ls rm ts cl).1) (popW s ls rm ts cl).2 (y := .i s) (fun z m => h1 z (List.mem_cons_of_mem _ m)) (fun z m => h2 z (by rw [List.dropLast_cons_of_ne_nil (List.cons_ne_nil _ _)]; exact List.mem_cons_of_mem _ m))
        (fun t m => (List.mem_cons.mp m).elim (fun e => e ▸ h2 s (by rw [List.dropLast_cons_of_ne_nil (List.cons_ne_nil _ _)]; exact List.mem_cons_self ..)) fun m => h3 t (k3 t m)) (by rw [List.length_cons] at hl; show _ + ((popW s ls rm ts cl).1.length + 1) + (ss.length + 1) ≤ 40; omega)
      refine ⟨r', ts', e.trans e', .inr ?_⟩
      rcases q with ⟨_, q⟩ | q
      · cases q
      · exact q
end


theorem run_val {F M : Fn} {f : Fp} {ps : List Str} {vs : List V} {v : V} (hl : vs.length = ps.length) (h : run (pmOf F M) f.scope.names 60 ⟨ps.zip vs, []⟩ f.body = some (.ret v)) : runF F M f ps vs = some v := by
  unfold runF; rw [if_pos hl, h]; rfl
theorem items_list {l : List S} (h : l.length ≤ 9999) : itemsV (.list l) = some l := by show Option.or (if small l = true then some l else none) none = _; rw [if_pos (show small l = true from decide_eq_true h)]; rfl
theorem add_list {a b : List S} (h : a.length + b.length ≤ 9999) : binop .Add (.list a) (.list b) = some (.list (a ++ b)) := by
  show Option.or (if isAdd .Add = true ∧ a.length + b.length ≤ 9999 then some (V.list (a ++ b)) else none) _ = _
  rw [if_pos ⟨rfl, h⟩]; rfl
section
variable {F M : Fn} {wo : Int → WS} {rm : Int → S} {ls : Int → Int → Bool}
theorem page_for (X : Rs → List Stmt → Option Out) (pl : List S) : stepS (evs (pmOf F M) 56) scC X 56 ⟨[("page", .list pl)], [("row", .list []), ("lines", .ds [] []), ("remarks", .ds [] [])]⟩ sFor =
  ((itemsV (.list pl)).map fun l => l.map V.sc).bind fun items => forGo (putT scC (lp sFor).t) (fun r => X r bd1) items ⟨[("page", .list pl)], [("row", .list []), ("lines", .ds [] []), ("remarks", .ds [] [])]⟩ := by kernel_rfl
theorem closed_run {its : List Ln} (hne : its ≠ []) (ok : ∀ x ∈ its, LnOk F x) (hl : its.length ≤ 9) (T : Tabs F M (its.map (·.k)) (its.map (·.k)).reverse (its.map (·.w)).reverse (its.map fun x => S.str x.rm).reverse wo rm ls) :
    runF F M fClo ["page"] [.list (its.map fun x => .str x.l)] = some (.list (pileW ls rm (its.map (·.k) ++ [0]) [] [])) := by
  refine run_val rfl ?_
  refine run_step (r' := ⟨[("page", .list (its.map fun x => .str x.l))], [("row", .list [])]⟩) (by kernel_rfl) (by kernel_rfl) (run_step (r' := ⟨[("page", .list (its.map fun x => .str x.l))], [("row", .list []), ("lines", .ds [] [])]⟩) (by kernel_rfl) (by kernel_rfl)
    (run_step (r' := ⟨[("page", .list (its.map fun x => .str x.l))], [("row", .list []), ("lines", .ds [] []), ("remarks", .ds [] [])]⟩) (by kernel_rfl) (by kernel_rfl) ?_))
  cases its with
  | nil => exact absurd rfl hne
  | cons x its =>
    rw [List.length_cons] at hl
    obtain ⟨ln, y, e⟩ := page_loop (F := F) (M := M) (pg := .list ((x :: its).map fun x => .str x.l)) its (ln := .s x.l) (y := .i x.k) (row := [.int x.k]) (ks := [x.k]) (ws := [x.w]) (rs := [.str x.rm]) (fun z m => ok z (List.mem_cons_of_mem _ m)) (by show 1 + _ ≤ _; omega) (by show 1 + _ ≤ _; omega)
    have e1 : ∀ {α : Type} (f : Ln → α), (its.map f).reverse ++ [f x] = ((x :: its).map f).reverse := fun f => by rw [List.map_cons, List.reverse_cons]
    have e2 : [S.int x.k] ++ its.map (fun x => S.int x.k) = ((x :: its).map (·.k)).map S.int := by rw [List.map_map]; rfl
    rw [e1, e1, e1 fun x => S.str x.rm, e2] at e
    refine run_step (by kernel_rfl) ((page_for _ _).trans (Eq.trans (b := forGo (putT scC (lp sFor).t) (fun r => run (pmOf F M) scC 56 r bd1) (its.map fun x => .s x.l) _) ?_ e)) ?_
    · rw [items_list (by rw [List.length_map, List.length_cons]; omega)]
      rw [Option.map_some, Option.bind_some, List.map_map]
      exact forGo_next (body := fun r => run (pmOf F M) scC 56 r bd1) (put_page0 x.l) (page_fst (ok x (List.mem_cons_self ..)))
    generalize hks : (x :: its).map (·.k) = syms at T e e2 ⊢
    have hs : syms.length ≤ 9 := by rw [← hks, List.length_map, List.length_cons]; omega
    refine run_step (by kernel_rfl) (d0 F M _ _ _ _ _ _ _) (run_step (by kernel_rfl) (d1 F M _ _ _ _ _ _ _) ?_)
    obtain ⟨r', ts', e', q⟩ := pile_loop (pg := .list ((x :: its).map fun x => .str x.l)) (ln := ln) (row := syms.map .int) T (syms ++ [0]) [] [] (y := y) (fun s m => (List.mem_append.mp m).elim .inr fun m => .inl (List.mem_singleton.mp m)) (fun s m => by rw [List.dropLast_concat] at m; exact m) (fun _ m => nomatch m) (by rw [List.length_append]; show 0 + 0 + (_ + 1) ≤ 40; omega)
    have q : ∃ s, r' = stP (.list ((x :: its).map fun x => .str x.l)) ln (syms.map .int) _ _ _ (.i s) ts' (pileW ls rm (syms ++ [0]) [] []) := q.elim (fun q => absurd q.2 (by simp)) id
    obtain ⟨s, rfl⟩ := q
    refine run_step (by kernel_rfl) ((d2 F M _ _ _ _ _ _ _).trans (Eq.trans (b := forGo (putT scC (lp sF2).t) (fun r => run (pmOf F M) scC 53 r (lp sF2).b) ((syms ++ [0]).map .i) _) ?_ e')) (run_ret (by kernel_rfl) (d8 F M _ _ _ _ _ _ _ _ _))
    · rw [add_list (by rw [List.length_map]; show _ + 1 ≤ _; omega)]
      rw [Option.bind_some, if_pos (.inl rfl), items_list (by rw [List.length_append, List.length_map]; show _ + 1 ≤ _; omega)]
      rw [Option.map_some, Option.bind_some, show (syms.map S.int ++ [S.int 0]).map V.sc = (syms ++ [0]).map V.i by rw [List.map_append, List.map_map, List.map_append]; rfl]
      rfl
end

@[reducible] noncomputable def ss (l : List Nat) : Str := ⟨⟨l⟩⟩
@[reducible] noncomputable def scH : Sc := fHal.scope.names
section
variable (F M : Fn) (sg od : Str) (pl : Int) (rt : Str) (X : Rs → List Stmt → Option Out)
theorem hl0 (r : Rs) (h : r = ⟨[("signs", .s sg), ("order", .s od)], []⟩) : stepS (evs (pmOf F M) 59) scH X 59 r (hd fHal.body) = (some (od == ("" : Str))).bind fun q => if q = true then X r (lp (hd fHal.body)).b else X r [] := by subst h; kernel_rfl
theorem hl1 : stepS (evs (pmOf F M) 58) scH X 58 ⟨[("signs", .s sg), ("order", .s od)], []⟩ (hd fHal.body.tail) =
  (((((((itemsV (.s sg)).bind fun items => compGo (fun i => (none : Option Bool).or ((cmpop .In (.sc i) (.s od)))) (fun i => some (.sc i)) items).map V.list).bind fun a => itemv a 0).or none).bind fun v => some ⟨[("signs", .s sg), ("order", .s od), ("root", v)], []⟩).map Out.next).or none := by kernel_rfl
theorem hl2 : stepS (evs (pmOf F M) 57) scH X 57 ⟨[("signs", .s sg), ("order", .s od), ("root", .s rt)], []⟩ (hd fHal.body.tail.tail) =
  (((((Builtin.Str.occurrences od rt 0 od.length 1).head?.map fun k => V.i k).or none).bind fun v => some ⟨[("signs", .s sg), ("order", .s od), ("root", .s rt), ("place", v)], []⟩).map Out.next).or none := by kernel_rfl
theorem hl3 : stepS (evs (pmOf F M) 56) scH X 56 ⟨[("signs", .s sg), ("order", .s od), ("root", .s rt), ("place", .i pl)], []⟩ (hd fHal.body.tail.tail.tail) =
  ((((((((slicev (.s od) none (some pl)).or none).bind fun v => some [v]).bind fun vs => some (V.s sg :: vs)).bind fun vs => ((F "_law_halved" vs).or none)).bind fun a => (((((slicev (.s od) (some (pl + 1)) none).or none).bind fun v => some [v]).bind fun vs => some (V.s sg :: vs)).bind fun vs => ((F "_law_halved" vs).or none)).bind fun b => binop .Add a b).bind fun a => binop .Add a (.s rt)).map Out.ret) := by kernel_rfl
end

/-! strings, as lists of signs -/
theorem slice_take {l : List Nat} {p : Nat} (h : p ≤ l.length) : Txt.slice (ss l) none (some (p : Int)) = ss (l.take p) := by
  refine (StrLaws.sliceText_to (x := ss l) ⟨Int.natCast_nonneg p, by show (p : Int) ≤ l.length; omega⟩).trans ?_
  show (⟨((l.drop 0).take ((p : Int) - 0).toNat).toArray⟩ : Str) = _
  rw [List.drop_zero, show ((p : Int) - 0).toNat = p by omega]
theorem slice_drop {l : List Nat} {p : Nat} (h : p ≤ l.length) : Txt.slice (ss l) (some (p : Int)) none = ss (l.drop p) := by
  refine (StrLaws.sliceText_from (x := ss l) ⟨Int.natCast_nonneg p, by show (p : Int) ≤ l.length; omega⟩).trans ?_
  show (⟨((l.drop (p : Int).toNat).take ((l.length : Int) - p).toNat).toArray⟩ : Str) = _
  rw [Int.toNat_natCast, List.take_of_length_le (by rw [List.length_drop]; omega)]
theorem idx_uniq {k : Nat} : ∀ {l : List Nat} {i : Nat}, l[i]? = some k → (∀ j, j < i → ¬ l[j]? = some k) → l.idxOf k = i := by
  intro l
  induction l with
  | nil => intro i h; cases h
  | cons x l ih =>
    intro i h1 h2
    rw [List.idxOf_cons]
    cases i with
    | zero => injection h1 with h1; rw [h1, beq_self_eq_true]; rfl
    | succ i =>
      have : (x == k) = false := beq_eq_false_iff_ne.mpr fun e => h2 0 (Nat.succ_pos _) (by rw [e]; rfl)
      rw [this]
      show l.idxOf k + 1 = i + 1
      rw [ih h1 fun j hj e => h2 (j + 1) (Nat.succ_lt_succ hj) e]
theorem occ_idx {l : List Nat} {k : Nat} (h : k ∈ l) : (Builtin.Str.occurrences (ss l) (ss [k]) 0 (ss l).length 1).head? = some (l.idxOf k) := by
  rcases StrLaws.occ_head (ss l) (ss [k]) 1 (Nat.le_refl _) with ⟨_, hn⟩ | ⟨i, r, e, ha, hb⟩
  · obtain ⟨i, hi⟩ := List.mem_iff_getElem?.mp h
    exact absurd ((StrLaws.subAt_one (ss l) k i).mpr hi) (hn i)
  · rw [e, idx_uniq ((StrLaws.subAt_one (ss l) k i).mp ha) fun j hj e => hb j hj ((StrLaws.subAt_one (ss l) k j).mpr e)]; rfl
@[reducible] noncomputable def ch (l : List Nat) : List S := l.map fun k => .str (ss [k])
theorem chars_ss (l : List Nat) : chars (ss l) = ch l := rfl
theorem items_ss {l : List Nat} (h : l.length ≤ 9999) : itemsV (.s (ss l)) = some (ch l) := by show Option.or none (if l.length ≤ 9999 then some (ch l) else none) = _; rw [if_pos h]; rfl
theorem in_ss (l : List Nat) (k : Nat) : cmpop .In (.s (ss [k])) (.s (ss l)) = some (l.contains k) := by
  show some (Txt.contains (ss l) (ss [k])) = _
  rw [show Txt.contains (ss l) (ss [k]) = decide (k ∈ l) from StrLaws.found_one (ss l) k, List.contains_eq_mem]
theorem comp_filter {p : S → Option Bool} {f : S → Option V} {q : Nat → Bool} : ∀ (l : List Nat), (∀ k ∈ l, p (.str (ss [k])) = some (q k)) → (∀ k ∈ l, f (.str (ss [k])) = some (.s (ss [k]))) → compGo p f (ch l) = some (ch (l.filter q)) := by
  intro l
  induction l with
  | nil => intro _ _; rfl
  | cons k l ih =>
    intro h1 h2
    show (p (.str (ss [k]))).bind _ = _
    rw [h1 k (List.mem_cons_self ..), Option.bind_some, show compGo p f (l.map fun k => .str (ss [k])) = _ from ih (fun z m => h1 z (List.mem_cons_of_mem _ m)) (fun z m => h2 z (List.mem_cons_of_mem _ m)), Option.bind_some, List.filter_cons]
    cases q k with
    | true => rw [if_pos rfl, if_pos rfl, h2 k (List.mem_cons_self ..)]; rfl
    | false => rfl
theorem add_ss {a b : List Nat} (h : a.length + b.length ≤ 9999) : binop .Add (.s (ss a)) (.s (ss b)) = some (.s (ss (a ++ b))) := by
  show Option.or (if isAdd .Add = true ∧ a.length + b.length ≤ 9999 then some (V.s (ss a ++ ss b)) else none) _ = _
  rw [if_pos ⟨rfl, h⟩]
  show some (V.s ⟨(⟨a⟩ : Array Nat) ++ ⟨b⟩⟩) = _
  rw [List.append_toArray]
theorem slicev_ss {l : List Nat} (h : l.length ≤ 9999) (lo hi : Option Int) : slicev (.s (ss l)) lo hi = some (.s (Txt.slice (ss l) lo hi)) := by show Option.or (if l.length ≤ 9999 then some _ else none) none = _; rw [if_pos h]; rfl

/-! the halves -/
noncomputable def halC (sg : List Nat) : Nat → List Nat → List Nat
  | 0, _ => []
  | n + 1, od => match sg.filter (od.contains ·) with
    | [] => []
    | k :: _ => halC sg n (od.take (od.idxOf k)) ++ halC sg n (od.drop (od.idxOf k + 1)) ++ [k]
noncomputable def FH : Nat → Fn
  | 0 => F0
  | n + 1 => fun f vs => if f = "_law_halved" then runF (FH n) F0 fHal ["signs", "order"] vs else none
theorem halC_len (sg : List Nat) : ∀ (n : Nat) (od : List Nat), (halC sg n od).length ≤ od.length := by
  intro n
  induction n with
  | zero => intro od; exact Nat.zero_le _
  | succ n ih =>
    intro od
    unfold halC
    cases e : sg.filter (od.contains ·) with
    | nil => exact Nat.zero_le _
    | cons k r =>
      have hk : k ∈ od := by have := (List.mem_filter.mp (e ▸ List.mem_cons_self .. : k ∈ sg.filter (od.contains ·))).2; simpa using this
      have hi := List.idxOf_lt_length_of_mem hk
      have a := ih (od.take (od.idxOf k))
      have b := ih (od.drop (od.idxOf k + 1))
      rw [List.length_take] at a
      rw [List.length_drop] at b
      show (_ ++ _ ++ [k]).length ≤ _
      rw [List.length_append, List.length_append]
      show _ + _ + 1 ≤ _
      omega
theorem hal_run {sg : List Nat} (hs : sg.length ≤ 99) : ∀ (n : Nat) (od : List Nat), od.length < n → od.length ≤ 99 → (∀ k ∈ od, k ∈ sg) → FH n "_law_halved" [.s (ss sg), .s (ss od)] = some (.s (ss (halC sg n od))) := by
  intro n
  induction n with
  | zero => intro od h; cases h
  | succ n ih =>
    intro od h1 h2 h3
    show (if ("_law_halved" : Str) = "_law_halved" then runF (FH n) F0 fHal ["signs", "order"] [.s (ss sg), .s (ss od)] else none) = _
    rw [if_pos rfl]
    refine run_val rfl ?_
    cases od with
    | nil =>
      have e : sg.filter (([] : List Nat).contains ·) = [] := List.filter_eq_nil_iff.mpr fun _ _ => by simp
      unfold halC
      rw [e]
      exact run_ret (by kernel_rfl) ((hl0 _ _ _ _ _ _ rfl).trans (by kernel_rfl))
    | cons x od =>
      cases e : sg.filter ((x :: od).contains ·) with
      | nil => exact absurd (List.filter_eq_nil_iff.mp e x (h3 x (List.mem_cons_self ..))) (by simp)
      | cons k r =>
        have hk : k ∈ x :: od := by have := (List.mem_filter.mp (e ▸ List.mem_cons_self .. : k ∈ sg.filter ((x :: od).contains ·))).2; simpa using this
        have hi := List.idxOf_lt_length_of_mem hk
        unfold halC
        rw [e]
        generalize x :: od = l at *
        have ne : (ss l == ("" : Str)) = false := beq_eq_false_iff_ne.mpr fun q => by
          have q := congrArg (fun z : Str => z.cps.toList) q
          have q : l = [] := q.trans (by kernel_rfl)
          rw [q] at hk; cases hk
        refine run_step (r' := ⟨[("signs", .s (ss sg)), ("order", .s (ss l))], []⟩) (by kernel_rfl) ((hl0 _ _ _ _ _ _ rfl).trans (by rw [ne]; kernel_rfl)) ?_
        refine run_step (r' := ⟨[("signs", .s (ss sg)), ("order", .s (ss l)), ("root", .s (ss [k]))], []⟩) (by kernel_rfl) ((hl1 _ _ _ _ _).trans ?_) ?_
        · rw [items_ss (by omega), Option.bind_some, comp_filter (q := fun k => l.contains k) sg (fun z _ => by show Option.or none _ = _; rw [in_ss]; rfl) (fun _ _ => rfl), show sg.filter (fun k => l.contains k) = k :: r from e]; rfl
        refine run_step (r' := ⟨[("signs", .s (ss sg)), ("order", .s (ss l)), ("root", .s (ss [k])), ("place", .i (l.idxOf k))], []⟩) (by kernel_rfl) ((hl2 _ _ _ _ _ _).trans (by rw [occ_idx hk]; rfl)) ?_
        refine run_ret (by kernel_rfl) ((hl3 _ _ _ _ _ _ _).trans ?_)
        have a := ih (l.take (l.idxOf k)) (by rw [List.length_take]; omega) (by rw [List.length_take]; omega) fun z m => h3 z (List.mem_of_mem_take m)
        have b := ih (l.drop (l.idxOf k + 1)) (by rw [List.length_drop]; omega) (by rw [List.length_drop]; omega) fun z m => h3 z (List.mem_of_mem_drop m)
        have la := halC_len sg n (l.take (l.idxOf k))
        have lb := halC_len sg n (l.drop (l.idxOf k + 1))
        rw [List.length_take] at la
        rw [List.length_drop] at lb
        rw [slicev_ss (by omega), slicev_ss (by omega), slice_take (by omega), show ((l.idxOf k : Int) + 1) = ((l.idxOf k + 1 : Nat) : Int) from rfl, slice_drop (by omega)]
        simp only [Option.or_some, Option.bind_some, a, b, Option.some_or]
        rw [add_ss (by omega), Option.bind_some, add_ss (by rw [List.length_append]; show _ + _ + 1 ≤ _; omega)]
        rfl


@[reducible] noncomputable def scE : Sc := fEll.scope.names
@[reducible] noncomputable def bE (k : Nat) : List Stmt := fEll.body.drop k
@[reducible] noncomputable def sEF := hd (bE 9)
section
variable (wa got x : Str) (l : List S) (a e : Int) (X : Rs → List Stmt → Option Out) (y v : V)
theorem el0 : stepS (evs (pmOf F0 F0) 59) scE X 59 ⟨[("want", .s wa), ("got", .s got)], []⟩ (hd fEll.body) = (some (!Txt.contains wa "...")).bind fun q => if q = true then X ⟨[("want", .s wa), ("got", .s got)], []⟩ (lp (hd fEll.body)).b else X ⟨[("want", .s wa), ("got", .s got)], []⟩ [] := by kernel_rfl
theorem el1 : stepS (evs (pmOf F0 F0) 58) scE X 58 ⟨[("want", .s wa), ("got", .s got)], []⟩ (hd (bE 1)) =
  ((((if wa.length ≤ 9999 ∧ (("..." : Str).length == 0) = false ∧ (Txt.split wa "...").length ≤ 9999 then some (V.list ((Txt.split wa "...").map .str)) else none).or none).bind fun v => some ⟨[("want", .s wa), ("got", .s got), ("ws", v)], []⟩).map Out.next).or none := by kernel_rfl
theorem el2 : stepS (evs (pmOf F0 F0) 57) scE X 57 ⟨[("want", .s wa), ("got", .s got), ("ws", .list l)], []⟩ (hd (bE 2)) =
  (((((lenV (.list l)).map V.i).or none).or none).bind fun a => cmpop .GtE a (.i 2)).bind fun q => if q = true then some (.next ⟨[("want", .s wa), ("got", .s got), ("ws", .list l)], []⟩) else none := by kernel_rfl
theorem el3 : stepS (evs (pmOf F0 F0) 56) scE X 56 ⟨[("want", .s wa), ("got", .s got), ("ws", .list l)], []⟩ (hd (bE 3)) =
  ((((((((((lenV (.s got)).map V.i).or none).or none).bind fun v => some [v]).bind fun vs => some (V.i 0 :: vs)).bind tupV).bind fun v => (partsV v).bind fun vs => (two vs).map fun v2 => Rs.mk [("want", .s wa), ("got", .s got), ("ws", .list l), ("endpos", v2.2), ("startpos", v2.1)] []).or none).map Out.next).or none := by kernel_rfl
theorem el4 : stepS (evs (pmOf F0 F0) 55) scE X 55 ⟨[("want", .s wa), ("got", .s got), ("ws", .list (.str (ss []) :: l)), ("endpos", .i e), ("startpos", .i a)], []⟩ (hd (bE 4)) = some (.next ⟨[("want", .s wa), ("got", .s got), ("ws", .list (.str (ss []) :: l)), ("endpos", .i e), ("startpos", .i a), ("w", .s (ss []))], []⟩) := by kernel_rfl
theorem el5 : stepS (evs (pmOf F0 F0) 54) scE X 54 ⟨[("want", .s wa), ("got", .s got), ("ws", v), ("endpos", .i e), ("startpos", .i a), ("w", .s (ss []))], []⟩ (hd (bE 5)) = X ⟨[("want", .s wa), ("got", .s got), ("ws", v), ("endpos", .i e), ("startpos", .i a), ("w", .s (ss []))], []⟩ [] := by kernel_rfl
theorem el6 : stepS (evs (pmOf F0 F0) 53) scE X 53 ⟨[("want", .s wa), ("got", .s got), ("ws", .list l), ("endpos", .i e), ("startpos", .i a), ("w", y)], []⟩ (hd (bE 6)) = ((((itemv (.list l) (-1)).or none).bind fun v => some ⟨[("want", .s wa), ("got", .s got), ("ws", .list l), ("endpos", .i e), ("startpos", .i a), ("w", v)], []⟩).map Out.next).or none := by kernel_rfl
theorem el7 : stepS (evs (pmOf F0 F0) 52) scE X 52 ⟨[("want", .s wa), ("got", .s got), ("ws", v), ("endpos", .i e), ("startpos", .i a), ("w", .s (ss []))], []⟩ (hd (bE 7)) = X ⟨[("want", .s wa), ("got", .s got), ("ws", v), ("endpos", .i e), ("startpos", .i a), ("w", .s (ss []))], []⟩ [] := by kernel_rfl
theorem el8 : stepS (evs (pmOf F0 F0) 51) scE X 51 ⟨[("want", .s wa), ("got", .s got), ("ws", v), ("endpos", .i e), ("startpos", .i a), ("w", y)], []⟩ (hd (bE 8)) = (some (decide (e < a))).bind fun q => if q = true then X ⟨[("want", .s wa), ("got", .s got), ("ws", v), ("endpos", .i e), ("startpos", .i a), ("w", y)], []⟩ (lp (hd (bE 8))).b else X ⟨[("want", .s wa), ("got", .s got), ("ws", v), ("endpos", .i e), ("startpos", .i a), ("w", y)], []⟩ [] := by kernel_rfl
theorem el9 : stepS (evs (pmOf F0 F0) 50) scE X 50 ⟨[("want", .s wa), ("got", .s got), ("ws", .list l), ("endpos", .i e), ("startpos", .i a), ("w", y)], []⟩ sEF = ((itemsV (.list l)).map fun l => l.map V.sc).bind fun items => forGo (putT scE (lp sEF).t) (fun r => X r (lp sEF).b) items ⟨[("want", .s wa), ("got", .s got), ("ws", .list l), ("endpos", .i e), ("startpos", .i a), ("w", y)], []⟩ := by kernel_rfl
theorem el10 (r : Rs) : stepS (evs (pmOf F0 F0) 49) scE X 49 r (hd (bE 10)) = some (.ret (.t true)) := by kernel_rfl
theorem ep : putT scE (lp sEF).t (.s x) ⟨[("want", .s wa), ("got", .s got), ("ws", v), ("endpos", .i e), ("startpos", .i a), ("w", y)], []⟩ = some ⟨[("want", .s wa), ("got", .s got), ("ws", v), ("endpos", .i e), ("startpos", .i a), ("w", .s x)], []⟩ := by kernel_rfl
theorem eb0 : stepS (evs (pmOf F0 F0) 49) scE X 49 ⟨[("want", .s wa), ("got", .s got), ("ws", v), ("endpos", .i e), ("startpos", .i a), ("w", .s x)], []⟩ (hd (lp sEF).b) = some (.next ⟨[("want", .s wa), ("got", .s got), ("ws", v), ("endpos", .i e), ("startpos", .i (find4 got x a e)), ("w", .s x)], []⟩) := by kernel_rfl
theorem eb1 : stepS (evs (pmOf F0 F0) 48) scE X 48 ⟨[("want", .s wa), ("got", .s got), ("ws", v), ("endpos", .i e), ("startpos", .i a), ("w", .s x)], []⟩ (hd (lp sEF).b.tail) = (some (decide (a < 0))).bind fun q => if q = true then X ⟨[("want", .s wa), ("got", .s got), ("ws", v), ("endpos", .i e), ("startpos", .i a), ("w", .s x)], []⟩ (lp (hd (lp sEF).b.tail)).b else X ⟨[("want", .s wa), ("got", .s got), ("ws", v), ("endpos", .i e), ("startpos", .i a), ("w", .s x)], []⟩ [] := by kernel_rfl
theorem eb1' (r : Rs) : run (pmOf F0 F0) scE 48 r (lp (hd (lp sEF).b.tail)).b = some (.ret (.t false)) := by kernel_rfl
theorem eb2 (w : List Nat) (hw : w = [] ∨ ∃ k, w = [k]) : stepS (evs (pmOf F0 F0) 47) scE X 47 ⟨[("want", .s wa), ("got", .s got), ("ws", v), ("endpos", .i e), ("startpos", .i a), ("w", .s (ss w))], []⟩ (hd (lp sEF).b.tail.tail) = some (.next ⟨[("want", .s wa), ("got", .s got), ("ws", v), ("endpos", .i e), ("startpos", .i (a + w.length)), ("w", .s (ss w))], []⟩) := by
  rcases hw with rfl | ⟨k, rfl⟩
  · kernel_rfl
  · kernel_rfl
end

/-! what find finds -/
noncomputable def dropTo (c : Nat) : List Nat → Option (List Nat)
  | [] => none
  | x :: l => bif x == c then some l else dropTo c l
noncomputable def subSeq : List Nat → List Nat → Bool
  | [], _ => true
  | c :: r, l => match dropTo c l with
    | none => false
    | some l' => subSeq r l'
theorem dropTo_none {c : Nat} : ∀ {l : List Nat}, (∀ i : Nat, l[i]? ≠ some c) → dropTo c l = none := by
  intro l
  induction l with
  | nil => intro _; rfl
  | cons x l ih =>
    intro h
    unfold dropTo
    rw [show (x == c) = false from beq_eq_false_iff_ne.mpr fun e => h 0 (by rw [e]; rfl)]
    exact ih fun i => h (i + 1)
theorem dropTo_at {c : Nat} : ∀ {l : List Nat} {j : Nat}, l[j]? = some c → (∀ i : Nat, i < j → l[i]? ≠ some c) → dropTo c l = some (l.drop (j + 1)) := by
  intro l
  induction l with
  | nil => intro j h; cases h
  | cons x l ih =>
    intro j h1 h2
    unfold dropTo
    cases j with
    | zero => injection h1 with h1; rw [h1, beq_self_eq_true]; rfl
    | succ j =>
      rw [show (x == c) = false from beq_eq_false_iff_ne.mpr fun e => h2 0 (Nat.succ_pos _) (by rw [e]; rfl)]
      exact ih h1 fun i hi => h2 (i + 1) (Nat.succ_lt_succ hi)
theorem find_first (x y : Str) {a : Nat} (ha : a ≤ x.length) : (find4 x y a x.length = -1 ∧ ∀ i, a ≤ i → ¬ StrLaws.At x y x.length i) ∨ ∃ k : Nat, find4 x y a x.length = k ∧ a ≤ k ∧ StrLaws.At x y x.length k ∧ ∀ i, a ≤ i → i < k → ¬ StrLaws.At x y x.length i := by
  have e1 : fromIndex x.length (a : Int) = a := by unfold fromIndex; rw [if_neg (by omega)]; omega
  have e2 : fromIndex x.length (x.length : Int) = x.length := by unfold fromIndex; rw [if_neg (by omega)]; omega
  unfold find4
  rw [e1, e2, Nat.min_self, StrLaws.occ_eq]
  rcases StrLaws.occ_first x y x.length 1 (Nat.le_refl _) (List.range' a (x.length + 1 - a)) a (fun i m => (List.mem_range'_1.mp m).1) with ⟨h0, hn⟩ | ⟨pre, k, post, e, h0, hk, hn⟩
  · refine .inl ⟨by rw [h0], fun i hi ht => hn i (List.mem_range'_1.mpr ⟨hi, ?_⟩) ht⟩
    have := ht.1
    omega
  · have ek : k = a + pre.length := by
      have q := congrArg (fun l : List Nat => l[pre.length]?) e
      simp only [List.getElem?_append_right (Nat.le_refl _), Nat.sub_self, List.getElem?_cons_zero] at q
      have lt : pre.length < x.length + 1 - a := by have := congrArg List.length e; simp only [List.length_range', List.length_append, List.length_cons] at this; omega
      rw [List.getElem?_range' lt] at q
      injection q with q
      omega
    refine .inr ⟨k, ?_, by omega, hk, fun i hi hik => hn i ?_⟩
    · generalize (forIn (List.range' a (x.length + 1 - a)) ((#[] : Array Nat), a) (StrLaws.occBody x y x.length 1)).run.fst = arr at h0
      have h1 : arr.toList[0]? = some k := by simpa using h0
      cases hL : arr.toList with
      | nil => rw [hL] at h1; cases h1
      | cons b t => rw [hL] at h1; injection h1 with h1; rw [h1]
    · have q := congrArg (fun l : List Nat => l[i - a]?) e
      have lt : i - a < pre.length := by omega
      have lt' : i - a < x.length + 1 - a := by have := congrArg List.length e; simp only [List.length_range', List.length_append, List.length_cons] at this; omega
      simp only [List.getElem?_append_left lt] at q
      rw [List.getElem?_range' lt'] at q
      exact List.mem_of_getElem? (q.symm.trans (congrArg some (by omega)))
theorem find_one (l : List Nat) (c : Nat) {a : Nat} (ha : a ≤ l.length) : (find4 (ss l) (ss [c]) a l.length = -1 ∧ dropTo c (l.drop a) = none) ∨ ∃ k : Nat, find4 (ss l) (ss [c]) a l.length = k ∧ k < l.length ∧ dropTo c (l.drop a) = some (l.drop (k + 1)) := by
  have at_ : ∀ i, StrLaws.At (ss l) (ss [c]) (ss l).length i ↔ l[i]? = some c := StrLaws.subAt_one (ss l) c
  rcases find_first (ss l) (ss [c]) ha with ⟨h1, h2⟩ | ⟨k, h1, h2, h3, h4⟩
  · refine .inl ⟨h1, dropTo_none fun i e => ?_⟩
    rw [List.getElem?_drop] at e
    exact h2 _ (Nat.le_add_right a i) ((at_ _).mpr e)
  · refine .inr ⟨k, h1, (List.getElem?_eq_some_iff.mp ((at_ k).mp h3)).1, ?_⟩
    rw [dropTo_at (j := k - a) (by rw [List.getElem?_drop, show a + (k - a) = k by omega]; exact (at_ k).mp h3) fun i hi e => h4 (a + i) (Nat.le_add_right ..) (by omega) ((at_ _).mpr (by rwa [List.getElem?_drop] at e)), List.drop_drop, show a + (k - a + 1) = k + 1 by omega]
theorem find_nil (l : List Nat) {a : Nat} (ha : a ≤ l.length) : find4 (ss l) (ss []) a l.length = a := by
  have at_ : ∀ i, i ≤ l.length → StrLaws.At (ss l) (ss []) (ss l).length i := fun i hi => ⟨hi, by unfold Builtin.Str.subAt; show (Array.extract ⟨l⟩ i (i + 0) == (⟨[]⟩ : Array Nat)) = true; rw [Nat.add_zero, Array.extract_empty_of_stop_le_start (Nat.le_refl _)]; rfl⟩
  rcases find_first (ss l) (ss []) ha with ⟨_, h2⟩ | ⟨k, h1, h2, h3, h4⟩
  · exact absurd (at_ a ha) (h2 a (Nat.le_refl _))
  · refine (show find4 (ss l) (ss []) ↑a ↑l.length = ↑k from h1).trans ?_
    rcases Nat.eq_or_lt_of_le h2 with e | e
    · rw [e]
    · exact absurd (at_ a ha) (h4 a (Nat.le_refl _) e)

/-! ellipsis -/
theorem forGo_ret {put : V → Rs → Option Rs} {body : Rs → Option Out} {v o : V} {vs : List V} {r r₁ : Rs} (h1 : put v r = some r₁) (h2 : body r₁ = some (.ret o)) : forGo put body (v :: vs) r = some (.ret o) := by
  show (put v r).bind _ = _
  rw [h1]
  show (body r₁).bind _ = _
  rw [h2]; rfl
@[reducible] noncomputable def stE (wa : Str) (l : List Nat) (v : V) (a : Nat) (y : V) : Rs := ⟨[("want", .s wa), ("got", .s (ss l)), ("ws", v), ("endpos", .i l.length), ("startpos", .i a), ("w", y)], []⟩
theorem ell_loop (wa : Str) (l : List Nat) (v : V) : ∀ (ws : List (List Nat)) (a : Nat) {y : V}, (∀ w ∈ ws, w = [] ∨ ∃ k, w = [k]) → a ≤ l.length →
    (subSeq ws.flatten (l.drop a) = false ∧ forGo (putT scE (lp sEF).t) (fun r => run (pmOf F0 F0) scE 50 r (lp sEF).b) (ws.map fun w => .s (ss w)) (stE wa l v a y) = some (.ret (.t false))) ∨
    (subSeq ws.flatten (l.drop a) = true ∧ ∃ r', forGo (putT scE (lp sEF).t) (fun r => run (pmOf F0 F0) scE 50 r (lp sEF).b) (ws.map fun w => .s (ss w)) (stE wa l v a y) = some (.next r')) := by
  intro ws
  induction ws with
  | nil => intro a y _ _; exact .inr ⟨rfl, _, rfl⟩
  | cons w ws ih =>
    intro a y hw ha
    have h1 := hw w (List.mem_cons_self ..)
    have bad : find4 (ss l) (ss w) a l.length = -1 → forGo (putT scE (lp sEF).t) (fun r => run (pmOf F0 F0) scE 50 r (lp sEF).b) ((w :: ws).map fun w => .s (ss w)) (stE wa l v a y) = some (.ret (.t false)) := fun e =>
      forGo_ret (ep _ _ _ _ _ _ _) (run_step (by kernel_rfl) (eb0 _ _ _ _ _ _ _) (run_ret (by kernel_rfl) ((eb1 _ _ _ _ _ _ _).trans (by rw [e, show decide ((-1 : Int) < 0) = true from rfl, Option.bind_some, if_pos rfl]; exact eb1' _))))
    have good : ∀ k : Nat, find4 (ss l) (ss w) a l.length = k → forGo (putT scE (lp sEF).t) (fun r => run (pmOf F0 F0) scE 50 r (lp sEF).b) ((w :: ws).map fun w => .s (ss w)) (stE wa l v a y) = forGo (putT scE (lp sEF).t) (fun r => run (pmOf F0 F0) scE 50 r (lp sEF).b) (ws.map fun w => .s (ss w)) (stE wa l v (k + w.length) (.s (ss w))) := fun k e =>
      forGo_next (body := fun r => run (pmOf F0 F0) scE 50 r (lp sEF).b) (ep _ _ _ _ _ _ _) (run_step (by kernel_rfl) (eb0 _ _ _ _ _ _ _) (run_step (r' := stE wa l v k (.s (ss w))) (by kernel_rfl) ((eb1 _ _ _ _ _ _ _).trans (by rw [e, decide_eq_false (by omega)]; kernel_rfl)) (run_step (by kernel_rfl) (eb2 _ _ _ _ _ _ w h1) (by kernel_rfl))))
    rcases h1 with rfl | ⟨c, rfl⟩
    · rw [good a (find_nil l ha)]
      exact ih a (fun z m => hw z (List.mem_cons_of_mem _ m)) ha
    · show (subSeq (c :: ws.flatten) (l.drop a) = false ∧ _) ∨ (subSeq (c :: ws.flatten) (l.drop a) = true ∧ _)
      unfold subSeq
      rcases find_one l c ha with ⟨e, d⟩ | ⟨k, e, hk, d⟩
      · rw [d]; exact .inl ⟨rfl, bad e⟩
      · rw [d, good k e]
        exact ih (k + 1) (fun z m => hw z (List.mem_cons_of_mem _ m)) hk
theorem flat1 : ∀ row : List Nat, (row.map fun k => [k]).flatten = row
  | [] => rfl
  | k :: r => by rw [List.map_cons, List.flatten_cons, flat1 r]; rfl
theorem ell_run {wa : Str} {l row : List Nat} (hl : l.length ≤ 99) (hr : row.length ≤ 99) (hw : wa.length ≤ 9999) (hc : Txt.contains wa "..." = true) (hs : Txt.split wa "..." = (([] :: row.map fun k => [k]) ++ [[]]).map ss) : runF F0 F0 fEll ["want", "got"] [.s wa, .s (ss l)] = some (.t (subSeq row l)) := by
  refine run_val rfl ?_
  have hs' : (Txt.split wa "...").map S.str = S.str (ss []) :: ((row.map fun k => S.str (ss [k])) ++ [S.str (ss [])]) := by rw [hs]; simp
  have ln : ((Txt.split wa "...").map S.str).length = row.length + 2 := by rw [hs']; simp
  have ln' : (Txt.split wa "...").length = row.length + 2 := (List.length_map ..).symm.trans ln
  have top : itemv (.list ((Txt.split wa "...").map S.str)) (-1) = some (.s (ss [])) := by
    show Option.or (Option.map V.sc ((place _ (-1)).bind fun j => ((Txt.split wa "...").map S.str)[j]?)) none = _
    have hp : place ((Txt.split wa "...").map S.str).length (-1) = some (row.length + 1) := by
      rw [ln]; exact place_last _
    rw [hp, Option.bind_some, hs', List.getElem?_cons_succ, List.getElem?_append_right (by simp), List.length_map, Nat.sub_self]; rfl
  have st9 : ∀ r : Rs, run (pmOf F0 F0) scE 53 r [] = some (.next r) := fun r => rfl
  refine run_step (r' := ⟨[("want", .s wa), ("got", .s (ss l))], []⟩) (by kernel_rfl) ((el0 _ _ _).trans (by rw [hc]; kernel_rfl)) ?_
  refine run_step (r' := ⟨[("want", .s wa), ("got", .s (ss l)), ("ws", .list ((Txt.split wa "...").map S.str))], []⟩) (by kernel_rfl) ((el1 _ _ _).trans (by rw [if_pos ⟨hw, by kernel_rfl, by omega⟩]; rfl)) ?_
  generalize (Txt.split wa "...").map S.str = ws at *
  have lw : lenV (.list ws) = some ((row.length + 2 : Nat) : Int) := by show Option.or (if small ws = true then some (ws.length : Int) else none) _ = _; rw [if_pos (show small ws = true from decide_eq_true (by omega)), ln]; rfl
  refine run_step (r' := ⟨[("want", .s wa), ("got", .s (ss l)), ("ws", .list ws)], []⟩) (by kernel_rfl) ((el2 _ _ _ _).trans ?_) ?_
  · rw [lw]
    show (some (decide ((2 : Int) ≤ ((row.length + 2 : Nat) : Int)))).bind _ = _
    rw [decide_eq_true (by omega)]; rfl
  refine run_step (r' := ⟨[("want", .s wa), ("got", .s (ss l)), ("ws", .list ws), ("endpos", .i l.length), ("startpos", .i 0)], []⟩) (by kernel_rfl) ((el3 _ _ _ _).trans ?_) ?_
  · have : lenV (.s (ss l)) = some (l.length : Int) := by show (if l.length ≤ 9999 then some (l.length : Int) else none) = _; rw [if_pos (by omega)]
    rw [this]; rfl
  rw [hs'] at ln top lw ⊢
  refine run_step (by kernel_rfl) (el4 _ _ _ _ _ _) (run_step (by kernel_rfl) ((el5 _ _ _ _ _ _).trans rfl) ?_)
  refine run_step (r' := stE wa l _ 0 (.s (ss []))) (by kernel_rfl) ((el6 _ _ _ _ _ _ _).trans (by rw [top]; rfl)) (run_step (by kernel_rfl) ((el7 _ _ _ _ _ _).trans rfl) (run_step (r' := stE wa l _ 0 (.s (ss []))) (by kernel_rfl) ((el8 _ _ _ _ _ _ _).trans (by rw [decide_eq_false (by omega)]; rfl)) ?_))
  have e := ell_loop wa l (.list (S.str (ss []) :: ((row.map fun k => S.str (ss [k])) ++ [S.str (ss [])]))) (([] :: row.map fun k => [k]) ++ [[]]) 0 (y := .s (ss [])) (fun w m => by
    rcases List.mem_append.mp m with m | m
    · rcases List.mem_cons.mp m with m | m
      · exact .inl m
      · obtain ⟨k, _, rfl⟩ := List.mem_map.mp m; exact .inr ⟨k, rfl⟩
    · exact .inl (List.mem_singleton.mp m)) (Nat.zero_le _)
  have fl : (([] :: row.map fun k => [k]) ++ [[]]).flatten = row := by
    rw [List.flatten_append, List.flatten_cons, List.nil_append]
    show (row.map fun k => [k]).flatten ++ [] = _
    rw [List.append_nil, flat1]
  rw [fl, List.drop_zero] at e
  have it : ((itemsV (.list (S.str (ss []) :: ((row.map fun k => S.str (ss [k])) ++ [S.str (ss [])])))).map fun l => l.map V.sc) = some ((([] :: row.map fun k => [k]) ++ [[]]).map fun w => .s (ss w)) := by
    rw [items_list (by omega)]; simp
  rcases e with ⟨q, e⟩ | ⟨q, r', e⟩
  · rw [q]; exact run_ret (by kernel_rfl) ((el9 _ _ _ _ _ _ _).trans (by rw [it]; exact e))
  · rw [q]; exact run_step (by kernel_rfl) ((el9 _ _ _ _ _ _ _).trans (by rw [it]; exact e)) (run_ret (by kernel_rfl) (el10 _ _))


@[reducible] noncomputable def scO : Sc := fOnc.scope.names
@[reducible] noncomputable def scT : Sc := fTwi.scope.names
@[reducible] noncomputable def sO := hd fOnc.body
@[reducible] noncomputable def sT := hd fTwi.body
@[reducible] noncomputable def iO := hd (lp sO).b
@[reducible] noncomputable def i1 := hd (lp sT).b
@[reducible] noncomputable def i2 := hd (lp sT).b.tail
@[reducible] noncomputable def i3 := hd (lp i2).b.tail
section
variable (F M : Fn) (sg od : Str) (x y z w : Nat) (X : Rs → List Stmt → Option Out) (lo : List Nat)
theorem on0 : stepS (evs (pmOf F M) 59) scO X 59 ⟨[("signs", .s sg), ("order", .s od)], []⟩ sO = (((F "_law_rising" [.s sg, .i 3]).or none).bind fun v => if false = true ∨ v.asS.isNone = true then (itemsV v).map (fun l => l.map V.sc) else none).bind fun items => forGo (putT scO (lp sO).t) (fun r => X r (lp sO).b) items ⟨[("signs", .s sg), ("order", .s od)], []⟩ := by kernel_rfl
theorem on1 (tl : Rho) (h : tl = [] ∨ ∃ a b c, tl = ([("a", a), ("b", b), ("c", c)] : Rho)) : putT scO (lp sO).t (.s (ss [x, y, z])) ⟨("signs", .s sg) :: ("order", .s od) :: tl, []⟩ = some ⟨[("signs", .s sg), ("order", .s od), ("a", .s (ss [x])), ("b", .s (ss [y])), ("c", .s (ss [z]))], []⟩ := by
  rcases h with rfl | ⟨a, b, c, rfl⟩
  · kernel_rfl
  · kernel_rfl
theorem on2 : stepS (evs (pmOf F M) 58) scO X 58 ⟨[("signs", .s sg), ("order", .s od), ("a", .s (ss [x])), ("b", .s (ss [y])), ("c", .s (ss [z]))], []⟩ iO = (((F "_law_stand" [.s (ss [y, x, z]), .s od]).or none).bind truth).bind fun q => if q = true then X ⟨[("signs", .s sg), ("order", .s od), ("a", .s (ss [x])), ("b", .s (ss [y])), ("c", .s (ss [z]))], []⟩ (lp iO).b else X ⟨[("signs", .s sg), ("order", .s od), ("a", .s (ss [x])), ("b", .s (ss [y])), ("c", .s (ss [z]))], []⟩ [] := by kernel_rfl
theorem on4 (r : Rs) : stepS (evs (pmOf F M) 58) scO X 58 r (hd fOnc.body.tail) = some (.ret (.t true)) := by kernel_rfl
@[reducible] noncomputable def rT (sg od : Str) (x y z w : Nat) (tl : Rho) : Rs := ⟨("signs", .s sg) :: ("order", .s od) :: ("a", .s (ss [x])) :: ("b", .s (ss [y])) :: ("c", .s (ss [z])) :: ("d", .s (ss [w])) :: tl, []⟩
theorem tw0 : stepS (evs (pmOf F M) 59) scT X 59 ⟨[("signs", .s sg), ("order", .s od)], []⟩ sT = (((F "_law_rising" [.s sg, .i 4]).or none).bind fun v => if false = true ∨ v.asS.isNone = true then (itemsV v).map (fun l => l.map V.sc) else none).bind fun items => forGo (putT scT (lp sT).t) (fun r => X r (lp sT).b) items ⟨[("signs", .s sg), ("order", .s od)], []⟩ := by kernel_rfl
theorem tw1 : putT scT (lp sT).t (.s (ss [x, y, z, w])) ⟨[("signs", .s sg), ("order", .s od)], []⟩ = some (rT sg od x y z w []) := by kernel_rfl
theorem tw1' (x' y' z' w' : Nat) (tl : Rho) : putT scT (lp sT).t (.s (ss [x, y, z, w])) (rT sg od x' y' z' w' tl) = some (rT sg od x y z w tl) := by kernel_rfl
theorem tw2 (tl : Rho) : stepS (evs (pmOf F M) 58) scT X 58 (rT sg od x y z w tl) i1 = (((F "_law_stand" [.s (ss [z, y, x, w]), .s od]).or none).bind truth).bind fun q => if q = true then X (rT sg od x y z w tl) (lp i1).b else X (rT sg od x y z w tl) [] := by kernel_rfl
theorem tw4 (tl : Rho) : stepS (evs (pmOf F M) 57) scT X 57 (rT sg od x y z w tl) i2 = (((F "_law_stand" [.s (ss [y, z, x, w]), .s od]).or none).bind truth).bind fun q => if q = true then X (rT sg od x y z w tl) (lp i2).b else X (rT sg od x y z w tl) [] := by kernel_rfl
theorem tw5 (tl : Rho) (h : tl = [] ∨ ∃ v, tl = ([("lower", v)] : Rho)) : stepS (evs (pmOf F M) 56) scT X 56 (rT sg od x y z w tl) (hd (lp i2).b) =
  (((((((Builtin.Str.occurrences sg (ss [x]) 0 sg.length 1).head?.map fun k => V.i k).or none).bind fun v => v.asI.map some).bind fun u => slicev (.s sg) none u).or none |>.bind fun v => some (rT sg od x y z w [("lower", v)])).map Out.next).or none := by
  rcases h with rfl | ⟨v, rfl⟩
  · kernel_rfl
  · kernel_rfl
theorem tw6 : stepS (evs (pmOf F M) 55) scT X 55 (rT sg od x y z w [("lower", .s (ss lo))]) i3 =
  ((((itemsV (.s (ss lo))).bind fun items => compGo (fun i => (none : Option Bool).or (((((((binop .Add (.s (ss [y])) (.sc i)).bind fun v => binop .Add v (.s (ss [z]))).bind fun v => binop .Add v (.s (ss [x]))).bind fun v => binop .Add v (.s (ss [w]))).bind fun v => some [v, .s od]).bind fun vs => (F "_law_stand" vs).or none).bind truth)) (fun i => some (.sc i)) items).map V.list).bind fun a => cmpop .Eq a (.list [])).bind fun q => if q = true then X (rT sg od x y z w [("lower", .s (ss lo))]) (lp i3).b else X (rT sg od x y z w [("lower", .s (ss lo))]) [] := by kernel_rfl
theorem tw8 (r : Rs) : stepS (evs (pmOf F M) 58) scT X 58 r (hd fTwi.body.tail) = some (.ret (.t true)) := by kernel_rfl
end

/-! a search -/
theorem for_search {α : Type} {put : V → Rs → Option Rs} {body : Rs → Option Out} (I : Rs → Prop) (g : α → V) (q : α → Bool) (o : V) : ∀ (l : List α), (∀ v ∈ l, ∀ r, I r → ∃ r₁, put (g v) r = some r₁ ∧ ((q v = true ∧ body r₁ = some (.ret o)) ∨ (q v = false ∧ ∃ r₂, body r₁ = some (.next r₂) ∧ I r₂))) →
    ∀ r, I r → (l.any q = true ∧ forGo put body (l.map g) r = some (.ret o)) ∨ (l.any q = false ∧ ∃ r', forGo put body (l.map g) r = some (.next r')) := by
  intro l
  induction l with
  | nil => intro _ r _; exact .inr ⟨rfl, r, rfl⟩
  | cons v l ih =>
    intro h r i
    rw [List.any_cons]
    obtain ⟨r₁, h1, h2⟩ := h v (List.mem_cons_self ..) r i
    rcases h2 with ⟨e, h2⟩ | ⟨e, r₂, h2, i₂⟩
    · rw [e]; exact .inl ⟨rfl, forGo_ret h1 h2⟩
    · rw [e, List.map_cons, forGo_next h1 h2]
      exact ih (fun z m => h z (List.mem_cons_of_mem _ m)) r₂ i₂
noncomputable def q3 (st : List Nat → Bool) : List Nat → Bool
  | [x, y, z] => st [y, x, z]
  | _ => false
theorem once_run {F M : Fn} {sg od : Str} {rows : List (List Nat)} {st : List Nat → Bool} (hl : rows.length ≤ 999) (hr : F "_law_rising" [.s sg, .i 3] = some (.list (rows.map fun w => .str (ss w))))
    (hs : ∀ w ∈ rows, ∃ x y z, w = [x, y, z] ∧ F "_law_stand" [.s (ss [y, x, z]), .s od] = some (.t (st [y, x, z]))) : runF F M fOnc ["signs", "order"] [.s sg, .s od] = some (.t (!(rows.any (q3 st)))) := by
  refine run_val rfl ?_
  have e := for_search (put := putT scO (lp sO).t) (body := fun r => run (pmOf F M) scO 59 r (lp sO).b) (fun r => ∃ tl : Rho, (tl = [] ∨ ∃ a b c, tl = ([("a", a), ("b", b), ("c", c)] : Rho)) ∧ r = ⟨("signs", .s sg) :: ("order", .s od) :: tl, []⟩) (fun w => .s (ss w)) (q3 st) (.t false) rows (fun v m r i => by
    obtain ⟨tl, ht, rfl⟩ := i
    obtain ⟨x, y, z, rfl, f⟩ := hs v m
    refine ⟨_, on1 _ _ _ _ _ tl ht, ?_⟩
    have s2 := on2 F M sg od x y z (run (pmOf F M) scO 58)
    rw [f] at s2
    show (st [y, x, z] = true ∧ _) ∨ (st [y, x, z] = false ∧ _)
    cases hb : st [y, x, z] with
    | true => rw [hb] at s2; exact .inl ⟨rfl, run_ret (by kernel_rfl) (s2.trans (by kernel_rfl))⟩
    | false => rw [hb] at s2; exact .inr ⟨rfl, ⟨[("signs", .s sg), ("order", .s od), ("a", .s (ss [x])), ("b", .s (ss [y])), ("c", .s (ss [z]))], []⟩, run_step (r' := ⟨[("signs", .s sg), ("order", .s od), ("a", .s (ss [x])), ("b", .s (ss [y])), ("c", .s (ss [z]))], []⟩) (by kernel_rfl) (s2.trans (by kernel_rfl)) (by kernel_rfl), [("a", .s (ss [x])), ("b", .s (ss [y])), ("c", .s (ss [z]))], .inr ⟨_, _, _, rfl⟩, rfl⟩) _ ⟨[], .inl rfl, rfl⟩
  have s0 := on0 F M sg od (run (pmOf F M) scO 59)
  rw [hr, Option.some_or, Option.bind_some, if_pos (.inr rfl), items_list (by rw [List.length_map]; omega), Option.map_some, Option.bind_some, List.map_map] at s0
  rcases e with ⟨q, e⟩ | ⟨q, r', e⟩
  · rw [q]; exact run_ret (by kernel_rfl) (s0.trans e)
  · rw [q]; exact run_step (by kernel_rfl) (s0.trans e) (run_ret (by kernel_rfl) (on4 _ _ _ _))
noncomputable def q4 (sl : List Nat) (st : List Nat → Bool) : List Nat → Bool
  | [x, y, z, u] => st [z, y, x, u] || (st [y, z, x, u] && ((sl.take (sl.idxOf x)).filter fun k => st [y, k, z, x, u]).isEmpty)
  | _ => false
theorem allStr_ch (l : List Nat) : allStr (ch l) = some (l.map fun k => ss [k]) := by
  induction l with
  | nil => rfl
  | cons x l ih => show (allStr (ch l)).map (ss [x] :: ·) = _; rw [ih]; rfl
theorem ch_nil {l : List Nat} (h : ∀ k ∈ l, PyData.strOk (ss [k]) = true) : cmpop .Eq (.list (ch l)) (.list []) = some l.isEmpty := by
  show Option.or (Option.bind (allStr (ch l)) fun x => (allStr []).bind fun y => if x.all PyData.strOk = true ∧ y.all PyData.strOk = true then some (decide (x = y)) else none) _ = _
  rw [allStr_ch]
  show Option.or (if (l.map fun k => ss [k]).all PyData.strOk = true ∧ ([] : List Str).all PyData.strOk = true then _ else none) _ = _
  rw [if_pos ⟨List.all_eq_true.mpr fun x m => by obtain ⟨k, mk, rfl⟩ := List.mem_map.mp m; exact h k mk, rfl⟩]
  cases l <;> rfl
theorem twice_run {F M : Fn} {od : Str} {sl : List Nat} {rows : List (List Nat)} {st : List Nat → Bool} (hl : rows.length ≤ 999) (hsl : sl.length ≤ 99) (hok : ∀ k ∈ sl, PyData.strOk (ss [k]) = true) (hr : F "_law_rising" [.s (ss sl), .i 4] = some (.list (rows.map fun w => .str (ss w))))
    (hs : ∀ w ∈ rows, ∃ x y z u, w = [x, y, z, u] ∧ x ∈ sl ∧ F "_law_stand" [.s (ss [z, y, x, u]), .s od] = some (.t (st [z, y, x, u])) ∧ F "_law_stand" [.s (ss [y, z, x, u]), .s od] = some (.t (st [y, z, x, u])) ∧ ∀ k ∈ sl.take (sl.idxOf x), F "_law_stand" [.s (ss [y, k, z, x, u]), .s od] = some (.t (st [y, k, z, x, u]))) :
    runF F M fTwi ["signs", "order"] [.s (ss sl), .s od] = some (.t (!(rows.any (q4 sl st)))) := by
  refine run_val rfl ?_
  have e := for_search (put := putT scT (lp sT).t) (body := fun r => run (pmOf F M) scT 59 r (lp sT).b) (fun r => r = ⟨[("signs", .s (ss sl)), ("order", .s od)], []⟩ ∨ ∃ x y z u tl, r = rT (ss sl) od x y z u tl ∧ (tl = [] ∨ ∃ v, tl = ([("lower", v)] : Rho))) (fun w => .s (ss w)) (q4 sl st) (.t false) rows (fun v m r i => by
    obtain ⟨x, y, z, u, rfl, hx, f1, f2, f3⟩ := hs v m
    obtain ⟨tl, ht, p⟩ : ∃ tl, (tl = [] ∨ ∃ v, tl = ([("lower", v)] : Rho)) ∧ putT scT (lp sT).t (.s (ss [x, y, z, u])) r = some (rT (ss sl) od x y z u tl) := by
      rcases i with rfl | ⟨x', y', z', u', tl, rfl, ht⟩
      · exact ⟨[], .inl rfl, tw1 _ _ _ _ _ _⟩
      · exact ⟨tl, ht, tw1' _ _ _ _ _ _ _ _ _ _ _⟩
    refine ⟨_, p, ?_⟩
    have s1 := tw2 F M (ss sl) od x y z u (run (pmOf F M) scT 58) tl
    rw [f1] at s1
    show ((st [z, y, x, u] || (st [y, z, x, u] && ((sl.take (sl.idxOf x)).filter fun k => st [y, k, z, x, u]).isEmpty)) = true ∧ _) ∨ ((st [z, y, x, u] || (st [y, z, x, u] && ((sl.take (sl.idxOf x)).filter fun k => st [y, k, z, x, u]).isEmpty)) = false ∧ _)
    cases hb : st [z, y, x, u] with
    | true => rw [hb] at s1; exact .inl ⟨rfl, run_ret (by kernel_rfl) (s1.trans (by kernel_rfl))⟩
    | false =>
      rw [hb] at s1
      have s2 := tw4 F M (ss sl) od x y z u (run (pmOf F M) scT 57) tl
      rw [f2] at s2
      cases hc : st [y, z, x, u] with
      | false => rw [hc] at s2; exact .inr ⟨rfl, rT (ss sl) od x y z u tl, run_step (r' := rT (ss sl) od x y z u tl) (by kernel_rfl) (s1.trans (by kernel_rfl)) (run_step (r' := rT (ss sl) od x y z u tl) (by kernel_rfl) (s2.trans (by kernel_rfl)) (by kernel_rfl)), .inr ⟨x, y, z, u, tl, rfl, ht⟩⟩
      | true =>
        rw [hc] at s2
        have hi := List.idxOf_lt_length_of_mem hx
        have s3 : stepS (evs (pmOf F M) 56) scT (run (pmOf F M) scT 56) 56 (rT (ss sl) od x y z u tl) (hd (lp i2).b) = some (.next (rT (ss sl) od x y z u [("lower", .s (ss (sl.take (sl.idxOf x))))])) := (tw5 F M (ss sl) od x y z u (run (pmOf F M) scT 56) tl ht).trans (by
          rw [occ_idx hx]
          show Option.or (Option.map Out.next (Option.bind (Option.or (slicev (.s (ss sl)) none (some (sl.idxOf x : Int))) none) fun v => some (rT (ss sl) od x y z u [("lower", v)]))) none = _
          rw [slicev_ss (by omega), slice_take (by omega)]; rfl)
        have s4 := tw6 F M (ss sl) od x y z u (run (pmOf F M) scT 55) (sl.take (sl.idxOf x))
        rw [items_ss (by rw [List.length_take]; omega), Option.bind_some, comp_filter (q := fun k => st [y, k, z, x, u]) _ (fun k mk => by
          show Option.bind (Option.or (F "_law_stand" [.s (ss [y, k, z, x, u]), .s od]) none) truth = _
          rw [f3 k mk]; rfl) (fun _ _ => rfl), Option.map_some, Option.bind_some, ch_nil fun k mk => hok k (List.mem_of_mem_take (List.mem_filter.mp mk).1)] at s4
        have blkR : ∀ v, stepS (evs (pmOf F M) 55) scT (run (pmOf F M) scT 55) 55 (rT (ss sl) od x y z u [("lower", .s (ss (sl.take (sl.idxOf x))))]) i3 = some (.ret v) → run (pmOf F M) scT 57 (rT (ss sl) od x y z u tl) (lp i2).b = some (.ret v) := fun v q => run_step (by kernel_rfl) s3 (run_ret (by kernel_rfl) q)
        have blkN : ∀ r', stepS (evs (pmOf F M) 55) scT (run (pmOf F M) scT 55) 55 (rT (ss sl) od x y z u [("lower", .s (ss (sl.take (sl.idxOf x))))]) i3 = some (.next r') → run (pmOf F M) scT 57 (rT (ss sl) od x y z u tl) (lp i2).b = some (.next r') := fun v q => run_step (by kernel_rfl) s3 (run_step (by kernel_rfl) q (by kernel_rfl))
        cases hd : ((sl.take (sl.idxOf x)).filter fun k => st [y, k, z, x, u]).isEmpty with
        | true =>
          rw [hd] at s4
          exact .inl ⟨rfl, run_step (r' := rT (ss sl) od x y z u tl) (by kernel_rfl) (s1.trans (by kernel_rfl)) (run_ret (by kernel_rfl) (s2.trans (blkR _ (s4.trans (by kernel_rfl)))))⟩
        | false =>
          rw [hd] at s4
          exact .inr ⟨rfl, rT (ss sl) od x y z u [("lower", .s (ss (sl.take (sl.idxOf x))))], run_step (r' := rT (ss sl) od x y z u tl) (by kernel_rfl) (s1.trans (by kernel_rfl)) (run_step (by kernel_rfl) (s2.trans (blkN (rT (ss sl) od x y z u [("lower", .s (ss (sl.take (sl.idxOf x))))]) (s4.trans (by kernel_rfl)))) (by kernel_rfl)), .inr ⟨x, y, z, u, _, rfl, .inr ⟨_, rfl⟩⟩⟩) _ (.inl rfl)
  have s0 := tw0 F M (ss sl) od (run (pmOf F M) scT 59)
  rw [hr, Option.some_or, Option.bind_some, if_pos (.inr rfl), items_list (by rw [List.length_map]; omega), Option.map_some, Option.bind_some, List.map_map] at s0
  rcases e with ⟨q, e⟩ | ⟨q, r', e⟩
  · rw [q]; exact run_ret (by kernel_rfl) (s0.trans e)
  · rw [q]; exact run_step (by kernel_rfl) (s0.trans e) (run_ret (by kernel_rfl) (tw8 _ _ _ _))


noncomputable def sgn : List Nat := [43, 45, 42, 47, 124, 38, 60, 62, 61]
noncomputable def win (st n : Nat) : List Nat := (sgn.drop st).take n
noncomputable def risC : Nat → List Nat → List (List Nat)
  | 0, _ => [[]]
  | k + 1, [] => []
  | k + 1, x :: l => (risC k l).map (x :: ·) ++ risC (k + 1) l
noncomputable def FR : Nat → Fn
  | 0 => F0
  | n + 1 => fun f vs => if f = "_law_rising" then runF (FR n) F0 fRis ["signs", "many"] vs else none
noncomputable def stn : List (Nat × Nat) := [(0, 5), (1, 5), (2, 5), (3, 5), (0, 6), (1, 6), (2, 6), (3, 6)]
theorem all8 {P : Nat × Nat → Prop} (a : P (0, 5)) (b : P (1, 5)) (c : P (2, 5)) (d : P (3, 5)) (e : P (0, 6)) (f : P (1, 6)) (g : P (2, 6)) (h : P (3, 6)) : ∀ p ∈ stn, P p :=
  show ∀ p ∈ [(0, 5), (1, 5), (2, 5), (3, 5), (0, 6), (1, 6), (2, 6), (3, 6)], P p from List.forall_mem_cons.mpr ⟨a, List.forall_mem_cons.mpr ⟨b, List.forall_mem_cons.mpr ⟨c, List.forall_mem_cons.mpr ⟨d, List.forall_mem_cons.mpr ⟨e, List.forall_mem_cons.mpr ⟨f, List.forall_mem_cons.mpr ⟨g, List.forall_mem_cons.mpr ⟨h, fun _ m => nomatch m⟩⟩⟩⟩⟩⟩⟩⟩
@[reducible] noncomputable def risQ3 (p : Nat × Nat) : Prop := FR 5 "_law_rising" [.s (ss (win p.1 p.2)), V.i 3] = some (.list ((risC 3 (win p.1 p.2)).map fun w => .str (ss w)))
theorem ris30 : risQ3 (0, 5) := by kernel_rfl
theorem ris31 : risQ3 (1, 5) := by kernel_rfl
theorem ris32 : risQ3 (2, 5) := by kernel_rfl
theorem ris33 : risQ3 (3, 5) := by kernel_rfl
theorem ris34 : risQ3 (0, 6) := by kernel_rfl
theorem ris35 : risQ3 (1, 6) := by kernel_rfl
theorem ris36 : risQ3 (2, 6) := by kernel_rfl
theorem ris37 : risQ3 (3, 6) := by kernel_rfl
theorem ris3 : ∀ p ∈ stn, risQ3 p := all8 ris30 ris31 ris32 ris33 ris34 ris35 ris36 ris37
@[reducible] noncomputable def risQ4 (p : Nat × Nat) : Prop := FR 5 "_law_rising" [.s (ss (win p.1 p.2)), V.i 4] = some (.list ((risC 4 (win p.1 p.2)).map fun w => .str (ss w)))
theorem ris40 : risQ4 (0, 5) := by kernel_rfl
theorem ris41 : risQ4 (1, 5) := by kernel_rfl
theorem ris42 : risQ4 (2, 5) := by kernel_rfl
theorem ris43 : risQ4 (3, 5) := by kernel_rfl
theorem ris44 : risQ4 (0, 6) := by kernel_rfl
theorem ris45 : risQ4 (1, 6) := by kernel_rfl
theorem ris46 : risQ4 (2, 6) := by kernel_rfl
theorem ris47 : risQ4 (3, 6) := by kernel_rfl
theorem ris4 : ∀ p ∈ stn, risQ4 p := all8 ris40 ris41 ris42 ris43 ris44 ris45 ris46 ris47
noncomputable def p3 : List Nat → List Nat
  | [x, y, z] => [y, x, z]
  | l => l
noncomputable def p4 : List Nat → List (List Nat)
  | [x, y, z, u] => [[z, y, x, u], [y, z, x, u]]
  | _ => []
noncomputable def p5 (k : Nat) : List Nat → List Nat
  | [x, y, z, u] => [y, k, z, x, u]
  | l => l
noncomputable def rowsOf (l : List Nat) : List (List Nat) := (risC 3 l).map p3 ++ (risC 4 l).flatMap fun w => p4 w ++ (l.take (l.idxOf (w.headD 0))).map fun k => p5 k w
noncomputable def wantC (row : List Nat) : List Nat := [46, 46, 46] ++ row.flatMap fun c => [c, 46, 46, 46]
noncomputable def F1 : Fn := fun f vs => if f = "_ellipsis_match" then runF F0 F0 fEll ["want", "got"] vs else if f = "_comment_line" then runF F0 F0 fCom ["line"] vs else if f = "ISEOF" then runF F0 F0 fEof ["x"] vs else if f = "_law_line" then runF F0 F0 fLin ["depth", "sign"] vs else none
theorem sta (F M : Fn) (od : Str) (X : Rs → List Stmt → Option Out) : (stn.flatMap fun p => (rowsOf (win p.1 p.2)).map fun row => stepS (evs (pmOf F M) 59) fSta.scope.names X 59 ⟨[("row", .s (ss row)), ("order", .s od)], []⟩ (hd fSta.body)) = stn.flatMap fun p => (rowsOf (win p.1 p.2)).map fun row => ((F "_ellipsis_match" [.s (ss (wantC row)), .s od]).or none).map Out.ret := by kernel_rfl
@[reducible] noncomputable def splQ (p : Nat × Nat) : Prop := ((rowsOf (win p.1 p.2)).map fun row => (Txt.contains (ss (wantC row)) "...", Txt.split (ss (wantC row)) "...")) = (rowsOf (win p.1 p.2)).map fun row => (true, (([] :: row.map fun k => [k]) ++ [[]]).map ss)
theorem spl0 : splQ (0, 5) := by kernel_rfl
theorem spl1 : splQ (1, 5) := by kernel_rfl
theorem spl2 : splQ (2, 5) := by kernel_rfl
theorem spl3 : splQ (3, 5) := by kernel_rfl
theorem spl4 : splQ (0, 6) := by kernel_rfl
theorem spl5 : splQ (1, 6) := by kernel_rfl
theorem spl6 : splQ (2, 6) := by kernel_rfl
theorem spl7 : splQ (3, 6) := by kernel_rfl
theorem spl : ∀ p ∈ stn, splQ p := all8 spl0 spl1 spl2 spl3 spl4 spl5 spl6 spl7
noncomputable def lineC (i c : Nat) : List Nat := List.replicate i 32 ++ [9] ++ List.replicate i 32 ++ [c]
noncomputable def tails : List (List Nat) := [[], [32], [9], [32, 9, 10]]
noncomputable def cd (st i : Nat) : Nat := sgn.getD (st + i) 0
noncomputable def WSd (d : Nat) (raw : Str) : WS := ⟨raw, 2 * d + 1, 1, List.replicate d (.int 0) ++ [.int 1], d, Nat.beq d 0⟩
noncomputable def lnOf (st i : Nat) (t : List Nat) : Ln := ⟨ss (lineC i (cd st i) ++ t), Int.ofNat (14 + st + i), WSd i (ss (lineC i (cd st i) ++ t)), ss ([35, 32] ++ lineC i (cd st i))⟩
noncomputable def lns : List (Nat × Nat × List Nat) := (List.range 4).flatMap fun st => (List.range 6).flatMap fun i => tails.map fun t => (st, i, t)
theorem ln_tok : lns.map (fun p => (tokTab.lookup (Txt.strip (lnOf p.1 p.2.1 p.2.2).l), runF F0 F0 fCom ["line"] [.s (lnOf p.1 p.2.1 p.2.2).l], Nat.ble (lnOf p.1 p.2.1 p.2.2).l.length 9999)) = lns.map fun p => (some (lnOf p.1 p.2.1 p.2.2).k, some (V.s (lnOf p.1 p.2.1 p.2.2).rm), true) := by kernel_rfl
noncomputable def wsTab : List (Str × WS) := lns.map fun p => ((lnOf p.1 p.2.1 p.2.2).l, (lnOf p.1 p.2.1 p.2.2).w)
theorem ln_ws : lns.map (fun p => wsTab.lookup (lnOf p.1 p.2.1 p.2.2).l) = lns.map fun p => some (lnOf p.1 p.2.1 p.2.2).w := by kernel_rfl
noncomputable def sti : List (Nat × Nat) := (List.range 4).flatMap fun st => (List.range 6).map fun i => (st, i)
theorem lin : sti.map (fun p => runF F0 F0 fLin ["depth", "sign"] [.i (Int.ofNat p.2), .s (ss [cd p.1 p.2])]) = sti.map fun p => some (V.s (ss (lineC p.2 (cd p.1 p.2)))) := by kernel_rfl
noncomputable def iIni : Ini := ⟨(lp (hd fIni.body)).i, (fIni.body.drop 1).take 4, (lp (hd (fIni.body.drop 5))).i, (lp (hd (fIni.body.drop 6))).i, (lp (hd (fIni.body.drop 7))).i, (lp (hd (fIni.body.drop 8))).i⟩
@[reducible] noncomputable def lnSt (st : Nat) : List (Nat × Nat × List Nat) := (List.range 6).flatMap fun i => tails.map fun t => (st, i, t)
@[reducible] noncomputable def iniQ (x : Addr) (st : Nat) : Prop := (lnSt st).map (fun p => initF (pmOf F0 F0) fIni.scope.names 40 iIni x (lnOf p.1 p.2.1 p.2.2).l) = (lnSt st).map fun p => some (some x, (lnOf p.1 p.2.1 p.2.2).w)
theorem ini0 (x : Addr) : iniQ x 0 := by kernel_rfl
theorem ini1 (x : Addr) : iniQ x 1 := by kernel_rfl
theorem ini2 (x : Addr) : iniQ x 2 := by kernel_rfl
theorem ini3 (x : Addr) : iniQ x 3 := by kernel_rfl
theorem iniAll (x : Addr) : ∀ p ∈ lns, initF (pmOf F0 F0) fIni.scope.names 40 iIni x (lnOf p.1 p.2.1 p.2.2).l = some (some x, (lnOf p.1 p.2.1 p.2.2).w) := fun p mp => (List.mem_flatMap.mp mp).elim fun st q =>
  List.map_inj_left.mp ((show ∀ st ∈ [0, 1, 2, 3], iniQ x st from List.forall_mem_cons.mpr ⟨ini0 x, List.forall_mem_cons.mpr ⟨ini1 x, List.forall_mem_cons.mpr ⟨ini2 x, List.forall_mem_cons.mpr ⟨ini3 x, fun _ m => nomatch m⟩⟩⟩⟩) st q.1) p q.2


@[reducible] noncomputable def scL : Sc := fLaw.scope.names
@[reducible] noncomputable def bL (k : Nat) : List Stmt := fLaw.body.drop k
@[reducible] noncomputable def sL := hd (bL 7)
section
variable (F M : Fn) (l : List S) (X : Rs → List Stmt → Option Out) (v dv pg : V) (a b c d e f : Int) (sg : Str)
theorem la0 : stepS (evs (pmOf F M) 59) scL X 59 ⟨[("script", .list l)], []⟩ (hd (bL 0)) =
  ((((((slicev (.list l) none (some 6)).or none).bind fun v => (itemsV v).bind fun items => compGo (fun i => some true) (fun i => binop .Mod (.sc i) (.i 1000000)) items).map fun z => (⟨[("script", .list l), ("draws", .list z)], []⟩ : Rs)).or none).map Out.next).or none := by kernel_rfl
end
@[reducible] noncomputable def r0 (sc dr st sg od : V) (tl : Rho) : Rho := ("script", sc) :: ("draws", dr) :: ("start", st) :: ("signs", sg) :: ("order", od) :: tl
section
variable (F M : Fn) (l L : List S) (X : Rs → List Stmt → Option Out) (v dv pg sc dr st od x y z sv : V) (a b c d e f i : Int) (sg o : Str) (ks : List Nat) (k : Nat)
theorem la2 (D : List S) : stepS (evs (pmOf F M) 57) scL X 57 ⟨[("script", v), ("draws", .list (.int a :: D))], []⟩ (hd (bL 2)) = some (.next ⟨[("script", v), ("draws", .list (.int a :: D)), ("start", .i (a / 24 % 4))], []⟩) := by kernel_rfl
theorem la7 (D : List S) (tl : Rho) : stepS (evs (pmOf F M) 52) scL X 52 ⟨r0 sc (.list D) st sv od [], [("left", .list L), ("page", .list l)]⟩ sL = ((itemsV (.list D)).map fun l => l.map V.sc).bind fun items => forGo (putT scL (lp sL).t) (fun r => X r (lp sL).b) items ⟨r0 sc (.list D) st sv od [], [("left", .list L), ("page", .list l)]⟩ := by kernel_rfl
theorem lp0 : putT scL (lp sL).t (.i d) ⟨r0 sc dr st sv od [], [("left", .list L), ("page", .list l)]⟩ = some ⟨r0 sc dr st sv od [("draw", .i d)], [("left", .list L), ("page", .list l)]⟩ := by kernel_rfl
theorem lp1 : putT scL (lp sL).t (.i d) ⟨r0 sc dr st sv od [("draw", x), ("sign", y), ("depth", z)], [("left", .list L), ("page", .list l)]⟩ = some ⟨r0 sc dr st sv od [("draw", .i d), ("sign", y), ("depth", z)], [("left", .list L), ("page", .list l)]⟩ := by kernel_rfl
theorem lb0 (tl : Rho) (h : tl = [] ∨ ∃ y z, tl = ([("sign", y), ("depth", z)] : Rho)) : stepS (evs (pmOf F M) 51) scL X 51 ⟨r0 sc dr st sv od (("draw", .i d) :: tl), [("left", .list L), ("page", .list l)]⟩ (hd (lp sL).b) =
  ((((if true = true ∧ L.length + 0 ≤ 9999 then (((((lenV (.list L)).map V.i).or (F "len" [.list L])).or none).bind fun b => binop .Mod (.i d) b).bind fun v => v.asI.bind fun i => if 0 ≤ i then (L[i.toNat]?).map fun x => Rs.mk (r0 sc dr st sv od (("draw", .i d) :: upd "sign" (.sc x) tl)) [("left", .list (L.eraseIdx i.toNat)), ("page", .list l)] else none else none).or none).map Out.next).or none) := by
  rcases h with rfl | ⟨y, z, rfl⟩
  · kernel_rfl
  · kernel_rfl
theorem lb1 (tl : Rho) : stepS (evs (pmOf F M) 50) scL X 50 ⟨r0 sc dr st sv (.s (ss ks)) (("draw", .i d) :: ("sign", .s (ss [k])) :: tl), [("left", .list L), ("page", .list l)]⟩ (hd (lp sL).b.tail) =
  (if (ss ks).length + (ss [k]).length ≤ 9999 then some (Rs.mk (r0 sc dr st sv (.s (ss ks ++ ss [k])) (("draw", .i d) :: ("sign", .s (ss [k])) :: tl)) [("left", .list L), ("page", .list l)]) else none).map Out.next := by kernel_rfl
theorem lb2 (tl : Rho) : stepS (evs (pmOf F M) 49) scL X 49 ⟨r0 sc dr st (.s sg) od (("draw", .i d) :: ("sign", .s (ss [k])) :: tl), [("left", .list L), ("page", .list l)]⟩ (hd (lp sL).b.tail.tail) =
  ((((((tokTab.lookup (ss [k])).map V.i).bind fun a => (((itemv (.s sg) 0).or none).bind fun k => (k.asI.bind fun j => none).or (k.asS.bind fun x => (tokTab.lookup x).map V.i)).bind fun b => binop .Sub a b).bind fun v => some (Rs.mk (r0 sc dr st (.s sg) od (("draw", .i d) :: ("sign", .s (ss [k])) :: upd "depth" v tl)) [("left", .list L), ("page", .list l)])).map Out.next).or none) := by kernel_rfl
theorem lb3 : stepS (evs (pmOf F M) 48) scL X 48 ⟨r0 sc dr st sv od [("draw", .i d), ("sign", .s (ss [k])), ("depth", .i i)], [("left", .list L), ("page", .list l)]⟩ (hd (lp sL).b.tail.tail.tail) =
  (if true = true ∧ l.length + 1 ≤ 9999 then ((((F "_law_line" [.i i, .s (ss [k])]).or none).bind fun u => ((itemv (.list [.str (ss []), .str (ss [32]), .str (ss [9]), .str (ss [32, 9, 10])]) (d / 6 % 4)).or none).bind fun v => binop .Add u v).bind fun v => v.asSc.map fun x => Rs.mk (r0 sc dr st sv od [("draw", .i d), ("sign", .s (ss [k])), ("depth", .i i)]) [("left", .list L), ("page", .list (l ++ [x]))]) else none).map Out.next := by kernel_rfl
end
theorem mem_sti {st i : Nat} (h : st < 4) (hi : i < 6) : (st, i) ∈ sti := List.mem_flatMap.mpr ⟨st, List.mem_range.mpr h, List.mem_map.mpr ⟨i, List.mem_range.mpr hi, rfl⟩⟩
theorem tok_at : sti.map (fun p => tokTab.lookup (ss [cd p.1 p.2])) = sti.map fun p => some (Int.ofNat (14 + p.1 + p.2)) := by kernel_rfl
theorem tok_sg : stn.map (fun p => ((itemv (.s (ss (win p.1 p.2))) 0).or none).bind fun k => (k.asI.bind fun j => (none : Option V)).or (k.asS.bind fun x => (tokTab.lookup x).map V.i)) = stn.map fun p => some (V.i (Int.ofNat (14 + p.1))) := by kernel_rfl
noncomputable def allP : Nat → List Nat → List (List Nat)
  | 0, _ => [[]]
  | n + 1, l => (List.range l.length).flatMap fun r => (allP n (l.eraseIdx r)).map (l.getD r 0 :: ·)
theorem int4 {q : Int} (h0 : 0 ≤ q) (h4 : q < 4) : q = 0 ∨ q = 1 ∨ q = 2 ∨ q = 3 := by
  obtain ⟨n, rfl⟩ := Int.eq_ofNat_of_zero_le h0
  have h4 := Int.ofNat_lt.mp h4
  cases n with
  | zero => exact .inl rfl
  | succ n => cases n with
    | zero => exact .inr (.inl rfl)
    | succ n => cases n with
      | zero => exact .inr (.inr (.inl rfl))
      | succ n => cases n with
        | zero => exact .inr (.inr (.inr rfl))
        | succ n => exact absurd h4 (Nat.not_lt.mpr (Nat.le_add_left 4 n))
theorem tail_at (q : Int) (h0 : 0 ≤ q) (h4 : q < 4) : ∃ t ∈ tails, itemv (.list [.str (ss []), .str (ss [32]), .str (ss [9]), .str (ss [32, 9, 10])]) q = some (.s (ss t)) := by
  rcases int4 h0 h4 with rfl | rfl | rfl | rfl
  · exact ⟨_, List.mem_cons_self .., by kernel_rfl⟩
  · exact ⟨_, List.mem_cons_of_mem _ (List.mem_cons_self ..), by kernel_rfl⟩
  · exact ⟨_, List.mem_cons_of_mem _ (List.mem_cons_of_mem _ (List.mem_cons_self ..)), by kernel_rfl⟩
  · exact ⟨_, List.mem_cons_of_mem _ (List.mem_cons_of_mem _ (List.mem_cons_of_mem _ (List.mem_cons_self ..))), by kernel_rfl⟩
theorem lineC_len {i c : Nat} (h : i < 6) : (lineC i c).length ≤ 12 := by unfold lineC; simp; omega
theorem tails_len {t : List Nat} (h : t ∈ tails) : t.length ≤ 3 := Nat.le_of_ble_eq_true (List.all_eq_true.mp (show tails.all (fun t => Nat.ble t.length 3) = true by kernel_rfl) t h)
section
variable {F M : Fn} {sc dr stv : V} {st n : Nat}
@[reducible] noncomputable def stL (sc dr stv : V) (st n : Nat) (O : List Nat) (tl : Rho) (Lp : List Nat) (l : List S) : Rs := ⟨r0 sc dr stv (.s (ss (win st n))) (.s (ss O)) tl, [("left", .list (ch (Lp.map (cd st)))), ("page", .list l)]⟩
theorem law_it (hst : (st, n) ∈ stn) (h4 : st < 4) (hF : ∀ i, i < 6 → F "_law_line" [.i (Int.ofNat i), .s (ss [cd st i])] = some (.s (ss (lineC i (cd st i))))) {O Lp : List Nat} {l : List S} {tl : Rho} {d : Int} (ht : tl = [] ∨ ∃ y z, tl = ([("sign", y), ("depth", z)] : Rho))
    (h6 : ∀ p ∈ Lp, p < 6) (hne : 0 < Lp.length) (hL : Lp.length ≤ 99) (hO : O.length ≤ 99) (hl : l.length ≤ 99) :
    ∃ r t tl', r < Lp.length ∧ t ∈ tails ∧ run (pmOf F M) scL 52 (stL sc dr stv st n O (("draw", .i d) :: tl) Lp l) (lp sL).b = some (.next (stL sc dr stv st n (O ++ [cd st (Lp.getD r 0)]) [("draw", .i d), ("sign", .s (ss [cd st (Lp.getD r 0)])), ("depth", tl')] (Lp.eraseIdx r) (l ++ [.str (ss (lineC (Lp.getD r 0) (cd st (Lp.getD r 0)) ++ t))]))) := by
  have hm := Int.emod_nonneg d (show (Lp.length : Int) ≠ 0 by omega)
  have hm' := Int.emod_lt_of_pos d (show (0 : Int) < Lp.length by omega)
  have hr : (d % (Lp.length : Int)).toNat < Lp.length := by omega
  generalize hrd : (d % (Lp.length : Int)).toNat = r at hr
  obtain ⟨t, mt, et⟩ := tail_at (d / 6 % 4) (Int.emod_nonneg _ (by decide)) (Int.emod_lt_of_pos _ (by decide))
  have hp : Lp.getD r 0 < 6 := h6 _ (by rw [List.getD_eq_getElem?_getD, List.getElem?_eq_getElem hr]; exact List.getElem_mem hr)
  have hg : (ch (Lp.map (cd st)))[r]? = some (.str (ss [cd st (Lp.getD r 0)])) := by
    rw [List.getElem?_map, List.getElem?_map, List.getElem?_eq_getElem hr, List.getD_eq_getElem?_getD, List.getElem?_eq_getElem hr]; rfl
  have he : (ch (Lp.map (cd st))).eraseIdx r = ch ((Lp.eraseIdx r).map (cd st)) := by
    rw [List.eraseIdx_eq_take_drop_succ, List.eraseIdx_eq_take_drop_succ]; simp [List.map_take, List.map_drop]
  have hc : (ch (Lp.map (cd st))).length = Lp.length := by simp
  have lw : lenV (.list (ch (Lp.map (cd st)))) = some (Lp.length : Int) := by show Option.or (if small (ch (Lp.map (cd st))) = true then some _ else none) _ = _; rw [if_pos (show small _ = true from decide_eq_true (by omega)), hc]; rfl
  generalize Lp.getD r 0 = p at *
  have b0 := lb0 F M l (ch (Lp.map (cd st))) (run (pmOf F M) scL 51) sc dr stv (.s (ss O)) (.s (ss (win st n))) d tl ht
  rw [if_pos ⟨rfl, by omega⟩, lw] at b0
  have em : binop .Mod (.i d) (.i Lp.length) = some (.i (d % Lp.length)) := by show Option.or (Option.map V.i (if (0 : Int) < Lp.length then some (d % (Lp.length : Int)) else none)) _ = _; rw [if_pos (by omega)]; rfl
  have b0' : stepS (evs (pmOf F M) 51) scL (run (pmOf F M) scL 51) 51 (stL sc dr stv st n O (("draw", .i d) :: tl) Lp l) (hd (lp sL).b) = some (.next (stL sc dr stv st n O (("draw", .i d) :: upd "sign" (.s (ss [cd st p])) tl) (Lp.eraseIdx r) l)) := b0.trans (by
    show (Option.or (Option.map Out.next (Option.or (Option.bind (binop .Mod (.i d) (.i Lp.length)) _) none)) none) = _
    rw [em]
    show (Option.or (Option.map Out.next (Option.or (if 0 ≤ d % (Lp.length : Int) then _ else none) none)) none) = _
    rw [if_pos hm, hrd, hg, he]; rfl)
  have b1 : ∀ tl, stepS (evs (pmOf F M) 50) scL (run (pmOf F M) scL 50) 50 (stL sc dr stv st n O (("draw", .i d) :: ("sign", .s (ss [cd st p])) :: tl) (Lp.eraseIdx r) l) (hd (lp sL).b.tail) = some (.next (stL sc dr stv st n (O ++ [cd st p]) (("draw", .i d) :: ("sign", .s (ss [cd st p])) :: tl) (Lp.eraseIdx r) l)) := fun tl => (lb1 F M l _ _ sc dr stv (.s (ss (win st n))) d O (cd st p) tl).trans (by
    rw [if_pos (by show O.length + 1 ≤ 9999; omega)]
    show some (Out.next ⟨r0 _ _ _ _ (.s ⟨(⟨O⟩ : Array Nat) ++ ⟨[cd st p]⟩⟩) _, _⟩) = _
    rw [List.append_toArray])
  have tk := List.map_inj_left.mp tok_at _ (mem_sti h4 hp)
  have sg := List.map_inj_left.mp tok_sg _ hst
  have b2 : ∀ tl, stepS (evs (pmOf F M) 49) scL (run (pmOf F M) scL 49) 49 (stL sc dr stv st n (O ++ [cd st p]) (("draw", .i d) :: ("sign", .s (ss [cd st p])) :: tl) (Lp.eraseIdx r) l) (hd (lp sL).b.tail.tail) = some (.next (stL sc dr stv st n (O ++ [cd st p]) (("draw", .i d) :: ("sign", .s (ss [cd st p])) :: upd "depth" (.i (Int.ofNat p)) tl) (Lp.eraseIdx r) l)) := fun tl => (lb2 F M l _ _ sc dr stv (.s (ss (O ++ [cd st p]))) d (ss (win st n)) (cd st p) tl).trans (by
    rw [sg, tk]
    show some (Out.next ⟨r0 _ _ _ _ _ (_ :: _ :: upd "depth" (.i (Int.ofNat (14 + st + p) - Int.ofNat (14 + st))) tl), _⟩) = _
    rw [show Int.ofNat (14 + st + p) - Int.ofNat (14 + st) = Int.ofNat p by simp only [Int.ofNat_eq_natCast]; omega])
  have b3 : stepS (evs (pmOf F M) 48) scL (run (pmOf F M) scL 48) 48 (stL sc dr stv st n (O ++ [cd st p]) [("draw", .i d), ("sign", .s (ss [cd st p])), ("depth", .i (Int.ofNat p))] (Lp.eraseIdx r) l) (hd (lp sL).b.tail.tail.tail) = some (.next (stL sc dr stv st n (O ++ [cd st p]) [("draw", .i d), ("sign", .s (ss [cd st p])), ("depth", .i (Int.ofNat p))] (Lp.eraseIdx r) (l ++ [.str (ss (lineC p (cd st p) ++ t))]))) := (lb3 F M l _ _ sc dr stv (.s (ss (O ++ [cd st p]))) (.s (ss (win st n))) d (Int.ofNat p) (cd st p)).trans (by
    have := lineC_len (c := cd st p) hp
    have := tails_len mt
    rw [if_pos ⟨rfl, by omega⟩, hF p hp, et]
    show Option.map Out.next (Option.bind (binop .Add (.s (ss (lineC p (cd st p)))) (.s (ss t))) _) = _
    rw [add_ss (by omega)]; rfl)
  refine ⟨r, t, .i (Int.ofNat p), hr, mt, ?_⟩
  rcases ht with rfl | ⟨y, z, rfl⟩
  · exact run_step (by kernel_rfl) b0' (run_step (by kernel_rfl) (b1 []) (run_step (by kernel_rfl) (b2 []) (run_step (by kernel_rfl) b3 (by kernel_rfl))))
  · exact run_step (by kernel_rfl) b0' (run_step (by kernel_rfl) (b1 [("depth", z)]) (run_step (by kernel_rfl) (b2 [("depth", z)]) (run_step (by kernel_rfl) b3 (by kernel_rfl))))
end
@[reducible] noncomputable def r1 (sc dr st sg od x y z pg : V) (tl : Rho) : Rho := r0 sc dr st sg od (("draw", x) :: ("sign", y) :: ("depth", z) :: ("page", pg) :: tl)
@[reducible] noncomputable def w0 : Rho := [("left", .list [])]
noncomputable def rmk (F : Fn) (sg : Str) (i : S) : Option V := (((((strmeth .index sg [.sc i]).or none).bind fun v => some [v, .sc i]).bind fun vs => (F "_law_line" vs).or none).bind fun b => binop .Add (.s (ss [35, 32])) b)
section
variable (F M : Fn) (pl cl al : List S) (X : Rs → List Stmt → Option Out) (sc dr st x y z sv od cv : V) (sg os fi se fa : Str)
theorem le8 : stepS (evs (pmOf F M) 51) scL X 51 ⟨r0 sc dr st sv od [("draw", x), ("sign", y), ("depth", z)], [("left", .list []), ("page", .list pl)]⟩ (hd (bL 8)) =
  ((((F "_law_closed" [.list pl]).or none).bind fun v => some (Rs.mk (r1 sc dr st sv od x y z (.list pl) [("closed", v)]) w0)).map Out.next).or none := by kernel_rfl
theorem le9 : stepS (evs (pmOf F M) 50) scL X 50 ⟨r1 sc dr st sv od x y z cv [("closed", .list cl)], w0⟩ (hd (bL 9)) =
  ((((((((itemsV (.list cl)).bind fun items => compGo (fun i => some true) (fun i => (slicev (.sc i) (some 2) none).or none) items).map V.list).bind fun v => some [v]).bind fun vs => (F "_law_closed" vs).or none).bind fun v => some (Rs.mk (r1 sc dr st sv od x y z cv [("closed", .list cl), ("again", v)]) w0)).map Out.next).or none) := by kernel_rfl
theorem le10 : stepS (evs (pmOf F M) 49) scL X 49 ⟨r1 sc dr st (.s sg) (.s os) x y z cv [("closed", .list cl), ("again", .list al)], w0⟩ (hd (bL 10)) =
  ((((F "_law_halved" [.s sg, .s os]).or none).bind fun v => some (Rs.mk (r1 sc dr st (.s sg) (.s os) x y z cv [("closed", .list cl), ("again", .list al), ("first", v)]) w0)).map Out.next).or none := by kernel_rfl
theorem le11 : stepS (evs (pmOf F M) 48) scL X 48 ⟨r1 sc dr st (.s sg) od x y z cv [("closed", .list cl), ("again", .list al), ("first", .s fi)], w0⟩ (hd (bL 11)) =
  ((((F "_law_halved" [.s sg, .s fi]).or none).bind fun v => some (Rs.mk (r1 sc dr st (.s sg) od x y z cv [("closed", .list cl), ("again", .list al), ("first", .s fi), ("second", v)]) w0)).map Out.next).or none := by kernel_rfl
@[reducible] noncomputable def r2 (tl : Rho) : Rs := ⟨r1 sc dr st (.s sg) od x y z cv (("closed", .list cl) :: ("again", .list al) :: ("first", .s fi) :: ("second", .s se) :: tl), w0⟩
theorem le12 : stepS (evs (pmOf F M) 47) scL X 47 (r2 cl al sc dr st x y z od cv sg fi se []) (hd (bL 12)) =
  ((((itemsV (.s fi)).bind fun items => compGo (fun i => some true) (rmk F sg) items).map V.list).bind fun b => cmpop .NotEq (.list cl) b).bind fun q => if q = true then X (r2 cl al sc dr st x y z od cv sg fi se []) (lp (hd (bL 12))).b else X (r2 cl al sc dr st x y z od cv sg fi se []) [] := by kernel_rfl
theorem le13 : stepS (evs (pmOf F M) 46) scL X 46 (r2 cl al sc dr st x y z od cv sg fi se []) (hd (bL 13)) =
  ((((itemsV (.s se)).bind fun items => compGo (fun i => some true) (rmk F sg) items).map V.list).bind fun b => cmpop .NotEq (.list al) b).bind fun q => if q = true then X (r2 cl al sc dr st x y z od cv sg fi se []) (lp (hd (bL 13))).b else X (r2 cl al sc dr st x y z od cv sg fi se []) [] := by kernel_rfl
theorem le14 : stepS (evs (pmOf F M) 45) scL X 45 (r2 cl al sc dr st x y z od cv sg fi se []) (hd (bL 14)) =
  ((((if some (-1 : Int) = some (-1) ∧ sg.length ≤ 9999 then some (V.s (backS sg)) else none).or none).bind fun v => some (r2 cl al sc dr st x y z od cv sg fi se [("fall", v)])).map Out.next).or none := by kernel_rfl
theorem le15 : stepS (evs (pmOf F M) 44) scL X 44 (r2 cl al sc dr st x y z (.s os) cv sg fi se [("fall", .s fa)]) (hd (bL 15)) =
  (((((F "_law_once" [.s sg, .s os]).or none).bind fun b => (cmpop .Is (.t (fi == fa)) b).map V.t).bind fun a => (truth a).bind fun t => if t = true then (((F "_law_twice" [.s sg, .s os]).or none).bind fun b => (cmpop .Is (.t (se == fa)) b).map V.t) else some a).map Out.ret) := by kernel_rfl
end

section
variable {F M : Fn} {sc dr stv : V} {st n : Nat}
theorem law_loop (hst : (st, n) ∈ stn) (h4 : st < 4) (hF : ∀ i, i < 6 → F "_law_line" [.i (Int.ofNat i), .s (ss [cd st i])] = some (.s (ss (lineC i (cd st i))))) : ∀ (ds : List Int) (Lp O : List Nat) (l : List S) (tl : Rho), (tl = [] ∨ ∃ x y z, tl = ([("draw", x), ("sign", y), ("depth", z)] : Rho)) → ds.length = Lp.length →
    (∀ p ∈ Lp, p < 6) → O.length + Lp.length ≤ 99 → l.length + Lp.length ≤ 99 →
    ∃ ps ts tl', ps ∈ allP ds.length Lp ∧ ts.length = ps.length ∧ (∀ t ∈ ts, t ∈ tails) ∧ (ds ≠ [] → ∃ x y z, tl' = ([("draw", x), ("sign", y), ("depth", z)] : Rho)) ∧
      forGo (putT scL (lp sL).t) (fun r => run (pmOf F M) scL 52 r (lp sL).b) (ds.map .i) (stL sc dr stv st n O tl Lp l) = some (.next (stL sc dr stv st n (O ++ ps.map (cd st)) tl' [] (l ++ (ps.zip ts).map fun q => .str (lnOf st q.1 q.2).l))) := by
  intro ds
  induction ds with
  | nil =>
    intro Lp O l tl _ h1 _ _ _
    cases Lp with
    | nil => exact ⟨[], [], tl, List.mem_singleton.mpr rfl, rfl, (fun _ m => nomatch m), (fun q => absurd rfl q), by simp only [List.map_nil, List.zip_nil_left, List.append_nil]; rfl⟩
    | cons _ _ => cases h1
  | cons d ds ih =>
    intro Lp O l tl ht h1 h6 hO hl
    rw [List.length_cons] at h1
    obtain ⟨tl₁, h2, hp⟩ : ∃ tl₁ : Rho, (tl₁ = [] ∨ ∃ y z, tl₁ = ([("sign", y), ("depth", z)] : Rho)) ∧ putT scL (lp sL).t (.i d) (stL sc dr stv st n O tl Lp l) = some (stL sc dr stv st n O (("draw", .i d) :: tl₁) Lp l) := by
      rcases ht with rfl | ⟨x, y, z, rfl⟩
      · exact ⟨[], .inl rfl, lp0 _ _ _ _ _ _ _ _⟩
      · exact ⟨_, .inr ⟨y, z, rfl⟩, lp1 _ _ _ _ _ _ _ _ _ _ _⟩
    obtain ⟨r, t, z, hr, mt, e⟩ := law_it (F := F) (M := M) (sc := sc) (dr := dr) (stv := stv) (n := n) (d := d) hst h4 hF h2 h6 (by omega) (by omega) (O := O) (l := l) (by omega) (by omega)
    have hlen : (Lp.eraseIdx r).length + 1 = Lp.length := by rw [List.length_eraseIdx_of_lt hr]; omega
    obtain ⟨ps, ts, tl', m1, m2, m3, m4, e'⟩ := ih (Lp.eraseIdx r) (O ++ [cd st (Lp.getD r 0)]) (l ++ [.str (ss (lineC (Lp.getD r 0) (cd st (Lp.getD r 0)) ++ t))]) _ (.inr ⟨.i d, .s (ss [cd st (Lp.getD r 0)]), z, rfl⟩) (by omega) (fun p m => h6 p (List.mem_of_mem_eraseIdx m)) (by rw [List.length_append]; show O.length + 1 + _ ≤ _; omega) (by rw [List.length_append]; show l.length + 1 + _ ≤ _; omega)
    refine ⟨Lp.getD r 0 :: ps, t :: ts, tl', List.mem_flatMap.mpr ⟨r, List.mem_range.mpr hr, List.mem_map.mpr ⟨ps, m1, rfl⟩⟩, congrArg (· + 1) m2, fun x m => (List.mem_cons.mp m).elim (fun e => e ▸ mt) (m3 x), fun _ => ?_, ?_⟩
    · cases ds with
      | nil =>
        have : ps = [] := List.mem_singleton.mp m1
        subst this
        have q := (Option.some.inj (show some (Out.next _) = some (Out.next _) from e'))
        have q := congrArg (fun o : Out => o.get.map (·.ρ)) q
        injection q with q
        exact ⟨.i d, .s (ss [cd st (Lp.getD r 0)]), z, (List.cons.inj (List.cons.inj (List.cons.inj (List.cons.inj (List.cons.inj q).2).2).2).2).2.symm⟩
      | cons _ _ => exact m4 (List.cons_ne_nil _ _)
    · rw [List.map_cons, forGo_next (body := fun r => run (pmOf F M) scL 52 r (lp sL).b) hp e, e']
      simp only [List.map_cons, List.zip_cons_cons, List.append_assoc, List.singleton_append]
      rfl
end



/-! places in place of signs -/
noncomputable def popN (p : Nat) : List Nat → List Nat → List Nat × List Nat
  | [], cl => ([], cl)
  | t :: ts, cl => bif Nat.blt t p then (t :: ts, cl) else popN p ts (cl ++ [t])
noncomputable def pileN : List Nat → List Nat → List Nat → List Nat
  | [], ts, cl => cl ++ ts
  | p :: ps, ts, cl => pileN ps (p :: (popN p ts cl).1) (popN p ts cl).2
section
variable {f : Nat → Nat} (hf : ∀ x y, x < 6 → y < 6 → f x = f y → x = y)
include hf
theorem beq_map {x y : Nat} (hx : x < 6) (hy : y < 6) : (f x == f y) = (x == y) := by
  rw [Bool.eq_iff_iff, beq_iff_eq, beq_iff_eq]
  exact ⟨hf x y hx hy, congrArg f⟩
theorem contains_map {l : List Nat} {x : Nat} (hx : x < 6) (hl : ∀ y ∈ l, y < 6) : (l.map f).contains (f x) = l.contains x := by
  rw [Bool.eq_iff_iff, List.contains_iff_mem, List.contains_iff_mem, List.mem_map]
  exact ⟨fun ⟨y, m, e⟩ => hf y x (hl y m) hx e ▸ m, fun m => ⟨x, m, rfl⟩⟩
theorem idxOf_map {x : Nat} (hx : x < 6) : ∀ {l : List Nat}, (∀ y ∈ l, y < 6) → (l.map f).idxOf (f x) = l.idxOf x := by
  intro l
  induction l with
  | nil => intro _; rfl
  | cons y l ih =>
    intro h
    rw [List.map_cons, List.idxOf_cons, List.idxOf_cons, beq_map hf (h y (List.mem_cons_self ..)) hx, ih fun z m => h z (List.mem_cons_of_mem _ m)]
theorem filter_map6 {p q : Nat → Bool} : ∀ {l : List Nat}, (∀ y ∈ l, p (f y) = q y) → (l.map f).filter p = (l.filter q).map f := by
  intro l
  induction l with
  | nil => intro _; rfl
  | cons y l ih =>
    intro h
    rw [List.map_cons, List.filter_cons, List.filter_cons, h y (List.mem_cons_self ..), ih fun z m => h z (List.mem_cons_of_mem _ m)]
    cases q y <;> rfl
theorem halC_map {sg : List Nat} (hs : ∀ y ∈ sg, y < 6) : ∀ (k : Nat) (od : List Nat), (∀ y ∈ od, y < 6) → halC (sg.map f) k (od.map f) = (halC sg k od).map f := by
  intro k
  induction k with
  | zero => intro od _; rfl
  | succ k ih =>
    intro od ho
    unfold halC
    rw [filter_map6 hf (q := (od.contains ·)) fun y m => contains_map hf (hs y m) ho]
    cases e : sg.filter (od.contains ·) with
    | nil => rfl
    | cons x r =>
      have hx : x < 6 := hs x (List.mem_filter.mp (e ▸ List.mem_cons_self .. : x ∈ sg.filter (od.contains ·))).1
      show halC (sg.map f) k ((od.map f).take ((od.map f).idxOf (f x))) ++ halC (sg.map f) k ((od.map f).drop ((od.map f).idxOf (f x) + 1)) ++ [f x] = _
      rw [idxOf_map hf hx ho, ← List.map_take, ← List.map_drop, ih _ fun y m => ho y (List.mem_of_mem_take m), ih _ fun y m => ho y (List.mem_of_mem_drop m)]
      simp
theorem dropTo_map {x : Nat} (hx : x < 6) : ∀ {l : List Nat}, (∀ y ∈ l, y < 6) → dropTo (f x) (l.map f) = (dropTo x l).map (List.map f) := by
  intro l
  induction l with
  | nil => intro _; rfl
  | cons y l ih =>
    intro h
    rw [List.map_cons]
    unfold dropTo
    rw [beq_map hf (h y (List.mem_cons_self ..)) hx, ih fun z m => h z (List.mem_cons_of_mem _ m)]
    cases y == x <;> rfl
theorem dropTo_sub {x : Nat} : ∀ {l l' : List Nat}, dropTo x l = some l' → ∀ y ∈ l', y ∈ l := by
  intro l
  induction l with
  | nil => intro l' h; cases h
  | cons y l ih =>
    intro l' h z m
    unfold dropTo at h
    cases e : y == x with
    | true => rw [e] at h; injection h with h; exact List.mem_cons_of_mem _ (h ▸ m)
    | false => rw [e] at h; exact List.mem_cons_of_mem _ (ih h z m)
theorem subSeq_map : ∀ {r l : List Nat}, (∀ y ∈ r, y < 6) → (∀ y ∈ l, y < 6) → subSeq (r.map f) (l.map f) = subSeq r l := by
  intro r
  induction r with
  | nil => intro l _ _; rfl
  | cons x r ih =>
    intro l hr hl
    rw [List.map_cons]
    unfold subSeq
    rw [dropTo_map hf (hr x (List.mem_cons_self ..)) hl]
    cases e : dropTo x l with
    | none => rfl
    | some l' => exact ih (fun z m => hr z (List.mem_cons_of_mem _ m)) fun y m => hl y (dropTo_sub hf e y m)
end
theorem risC_map (f : Nat → Nat) : ∀ (l : List Nat) (k : Nat), risC k (l.map f) = (risC k l).map (List.map f) := by
  intro l
  induction l with
  | nil => intro k; cases k <;> rfl
  | cons x l ih =>
    intro k
    cases k with
    | zero => rfl
    | succ k =>
      show (risC k (l.map f)).map (f x :: ·) ++ risC (k + 1) (l.map f) = _
      rw [ih, ih]
      show _ = ((risC k l).map (x :: ·) ++ risC (k + 1) l).map (List.map f)
      rw [List.map_append, List.map_map, List.map_map]; rfl
theorem risC_mem : ∀ (l : List Nat) (k : Nat), ∀ w ∈ risC k l, w.length = k ∧ ∀ y ∈ w, y ∈ l := by
  intro l
  induction l with
  | nil => intro k w m; cases k with
    | zero => cases List.mem_singleton.mp m; exact ⟨rfl, fun _ m => nomatch m⟩
    | succ k => cases m
  | cons x l ih =>
    intro k w m
    cases k with
    | zero => cases List.mem_singleton.mp m; exact ⟨rfl, fun _ m => nomatch m⟩
    | succ k =>
      rcases List.mem_append.mp (show w ∈ (risC k l).map (x :: ·) ++ risC (k + 1) l from m) with m | m
      · obtain ⟨v, mv, rfl⟩ := List.mem_map.mp m
        exact ⟨congrArg (· + 1) (ih k v mv).1, fun y my => (List.mem_cons.mp my).elim (fun e => e ▸ List.mem_cons_self ..) fun my => List.mem_cons_of_mem _ ((ih k v mv).2 y my)⟩
      · exact ⟨(ih _ w m).1, fun y my => List.mem_cons_of_mem _ ((ih _ w m).2 y my)⟩
theorem lt4 {a b c d : Nat} (ha : a < 6) (hb : b < 6) (hc : c < 6) (hd : d < 6) : ∀ k ∈ [a, b, c, d], k < 6 := List.forall_mem_cons.mpr ⟨ha, List.forall_mem_cons.mpr ⟨hb, List.forall_mem_cons.mpr ⟨hc, List.forall_mem_cons.mpr ⟨hd, fun _ m => nomatch m⟩⟩⟩⟩
section
variable {f : Nat → Nat} (hf : ∀ x y, x < 6 → y < 6 → f x = f y → x = y)
include hf
theorem any_map6 {α β : Type} {g : α → β} {p : β → Bool} {q : α → Bool} {l : List α} (h : ∀ w ∈ l, p (g w) = q w) : (l.map g).any p = l.any q := by
  induction l with
  | nil => rfl
  | cons w l ih => rw [List.map_cons, List.any_cons, List.any_cons, h w (List.mem_cons_self ..), ih fun z m => h z (List.mem_cons_of_mem _ m)]
theorem once_map {l ps : List Nat} (hl : ∀ y ∈ l, y < 6) (hp : ∀ y ∈ ps, y < 6) : (risC 3 (l.map f)).any (q3 fun row => subSeq row (ps.map f)) = (risC 3 l).any (q3 fun row => subSeq row ps) := by
  rw [risC_map]
  refine any_map6 hf fun w m => ?_
  obtain ⟨h1, h2⟩ := risC_mem l 3 w m
  obtain ⟨x, y, z, rfl⟩ := ln3 h1
  obtain ⟨bx, b⟩ := List.forall_mem_cons.mp fun k m => hl k (h2 k m)
  obtain ⟨bY, b⟩ := List.forall_mem_cons.mp b
  exact subSeq_map hf (r := [y, x, z]) (List.forall_mem_cons.mpr ⟨bY, List.forall_mem_cons.mpr ⟨bx, b⟩⟩) hp
theorem twice_map {l ps : List Nat} (hl : ∀ y ∈ l, y < 6) (hp : ∀ y ∈ ps, y < 6) : (risC 4 (l.map f)).any (q4 (l.map f) fun row => subSeq row (ps.map f)) = (risC 4 l).any (q4 l fun row => subSeq row ps) := by
  rw [risC_map]
  refine any_map6 hf fun w m => ?_
  obtain ⟨h1, h2⟩ := risC_mem l 4 w m
  obtain ⟨x, y, z, u, rfl⟩ := ln4 h1
  obtain ⟨bx, b⟩ := List.forall_mem_cons.mp fun k m => hl k (h2 k m)
  obtain ⟨bY, b⟩ := List.forall_mem_cons.mp b
  obtain ⟨bz, b⟩ := List.forall_mem_cons.mp b
  obtain ⟨bu, _⟩ := List.forall_mem_cons.mp b
  show (subSeq ([z, y, x, u].map f) _ || (subSeq ([y, z, x, u].map f) _ && (((l.map f).take ((l.map f).idxOf (f x))).filter fun k => subSeq [f y, k, f z, f x, f u] (ps.map f)).isEmpty)) = _
  rw [subSeq_map hf (lt4 bz bY bx bu) hp, subSeq_map hf (lt4 bY bz bx bu) hp, idxOf_map hf bx hl, ← List.map_take,
    filter_map6 hf (q := fun k => subSeq [y, k, z, x, u] ps) fun k m => subSeq_map hf (r := [y, k, z, x, u]) (List.forall_mem_cons.mpr ⟨bY, lt4 (hl k (List.mem_of_mem_take m)) bz bx bu⟩) hp]
  show _ = (subSeq [z, y, x, u] ps || (subSeq [y, z, x, u] ps && ((l.take (l.idxOf x)).filter fun k => subSeq [y, k, z, x, u] ps).isEmpty))
  cases (l.take (l.idxOf x)).filter fun k => subSeq [y, k, z, x, u] ps <;> rfl
end
/-- the pile, by places -/
theorem popW_pos {s : Nat} {ls : Int → Int → Bool} {rm : Int → S} {f : Nat → Int} {g : Nat → S} (h1 : ∀ t, ls (f t) (f s) = Nat.blt t s) (h0 : (f s == 0) = false) (hr : ∀ t, rm (f t) = g t) : ∀ (ts cl : List Nat), popW (f s) ls rm (ts.map f) (cl.map g) = (((popN s ts cl).1).map f, ((popN s ts cl).2).map g) := by
  intro ts
  induction ts with
  | nil => intro cl; rfl
  | cons t ts ih =>
    intro cl
    rw [List.map_cons]
    unfold popW popN
    rw [h0, h1, Bool.false_or]
    cases Nat.blt t s with
    | true => rfl
    | false =>
      show popW (f s) ls rm (ts.map f) (cl.map g ++ [rm (f t)]) = (((popN s ts (cl ++ [t])).1).map f, ((popN s ts (cl ++ [t])).2).map g)
      rw [← ih, hr, List.map_append]; rfl
theorem popW_end {ls : Int → Int → Bool} {rm : Int → S} {f : Nat → Int} {g : Nat → S} (hr : ∀ t, rm (f t) = g t) : ∀ (ts cl : List Nat), (popW 0 ls rm (ts.map f) (cl.map g)).2 = (cl ++ ts).map g := by
  intro ts
  induction ts with
  | nil => intro cl; rw [List.append_nil]; rfl
  | cons t ts ih =>
    intro cl
    rw [List.map_cons]
    unfold popW
    rw [show ((0 : Int) == 0) = true from rfl, Bool.true_or, hr]
    show (popW 0 ls rm (ts.map f) (cl.map g ++ [g t])).2 = _
    rw [show cl.map g ++ [g t] = (cl ++ [t]).map g by rw [List.map_append]; rfl, ih, List.append_assoc]; rfl
theorem pileW_pos {ls : Int → Int → Bool} {rm : Int → S} {f : Nat → Int} {g : Nat → S} (h1 : ∀ t s, ls (f t) (f s) = Nat.blt t s) (h0 : ∀ s, (f s == 0) = false) (hr : ∀ t, rm (f t) = g t) : ∀ (ps ts cl : List Nat), pileW ls rm (ps.map f ++ [0]) (ts.map f) (cl.map g) = (pileN ps ts cl).map g := by
  intro ps
  induction ps with
  | nil => intro ts cl; exact popW_end hr ts cl
  | cons p ps ih =>
    intro ts cl
    show pileW ls rm (ps.map f ++ [0]) (f p :: (popW (f p) ls rm (ts.map f) (cl.map g)).1) (popW (f p) ls rm (ts.map f) (cl.map g)).2 = (pileN ps (p :: (popN p ts cl).1) (popN p ts cl).2).map g
    rw [popW_pos (h1 · p) (h0 p) hr, ← ih]; rfl


/-! the orders, all -/
noncomputable def nodB : List Nat → Bool
  | [] => true
  | x :: l => !(l.contains x) && nodB l
theorem nodB_ok : ∀ {l : List Nat}, nodB l = true → l.Nodup := by
  intro l
  induction l with
  | nil => intro _; exact List.nodup_nil
  | cons x l ih =>
    intro h
    obtain ⟨h1, h2⟩ := Bool.and_eq_true_iff.mp h
    refine List.nodup_cons.mpr ⟨fun m => ?_, ih h2⟩
    rw [List.contains_iff_mem.mpr m] at h1
    cases h1
noncomputable def okB (n : Nat) (l : List Nat) : Bool := nodB l && l.all (Nat.blt · n) && Nat.beq l.length n
noncomputable def chkP (n : Nat) (ps : List Nat) : Bool :=
  okB n ps && okB n (halC (List.range n) 7 ps) && (pileN ps [] [] == halC (List.range n) 7 ps) && (pileN (halC (List.range n) 7 ps) [] [] == halC (List.range n) 7 (halC (List.range n) 7 ps)) &&
    ((halC (List.range n) 7 ps == (List.range n).reverse) == !((risC 3 (List.range n)).any (q3 fun row => subSeq row ps))) &&
    ((halC (List.range n) 7 (halC (List.range n) 7 ps) == (List.range n).reverse) == !((risC 4 (List.range n)).any (q4 (List.range n) fun row => subSeq row ps)))
structure ChkP (n : Nat) (ps : List Nat) : Prop where
  nd : ps.Nodup
  lt : ∀ p ∈ ps, p < n
  len : ps.length = n
  nd1 : (halC (List.range n) 7 ps).Nodup
  lt1 : ∀ p ∈ halC (List.range n) 7 ps, p < n
  len1 : (halC (List.range n) 7 ps).length = n
  one : pileN ps [] [] = halC (List.range n) 7 ps
  two : pileN (halC (List.range n) 7 ps) [] [] = halC (List.range n) 7 (halC (List.range n) 7 ps)
  onc : (halC (List.range n) 7 ps == (List.range n).reverse) = !((risC 3 (List.range n)).any (q3 fun row => subSeq row ps))
  twi : (halC (List.range n) 7 (halC (List.range n) 7 ps) == (List.range n).reverse) = !((risC 4 (List.range n)).any (q4 (List.range n) fun row => subSeq row ps))
theorem okB_ok {n : Nat} {l : List Nat} (h : okB n l = true) : l.Nodup ∧ (∀ p ∈ l, p < n) ∧ l.length = n := by
  unfold okB at h
  rw [Bool.and_eq_true, Bool.and_eq_true] at h
  exact ⟨nodB_ok h.1.1, fun p m => Nat.le_of_ble_eq_true (List.all_eq_true.mp h.1.2 p m), Nat.eq_of_beq_eq_true h.2⟩
theorem chkP_ok {n : Nat} {ps : List Nat} (h : chkP n ps = true) : ChkP n ps := by
  unfold chkP at h
  simp only [Bool.and_eq_true] at h
  obtain ⟨⟨⟨⟨⟨h1, h2⟩, h3⟩, h4⟩, h5⟩, h6⟩ := h
  have a := okB_ok h1
  have b := okB_ok h2
  exact ⟨a.1, a.2.1, a.2.2, b.1, b.2.1, b.2.2, beq_iff_eq.mp h3, beq_iff_eq.mp h4, beq_iff_eq.mp h5, beq_iff_eq.mp h6⟩
theorem plain5 : (allP 5 (List.range 5)).all (chkP 5) = true := by kernel_rfl
theorem plain60 : (allP 5 [1, 2, 3, 4, 5]).all (fun ps => chkP 6 (0 :: ps)) = true := by kernel_rfl
theorem plain61 : (allP 5 [0, 2, 3, 4, 5]).all (fun ps => chkP 6 (1 :: ps)) = true := by kernel_rfl
theorem plain62 : (allP 5 [0, 1, 3, 4, 5]).all (fun ps => chkP 6 (2 :: ps)) = true := by kernel_rfl
theorem plain63 : (allP 5 [0, 1, 2, 4, 5]).all (fun ps => chkP 6 (3 :: ps)) = true := by kernel_rfl
theorem plain64 : (allP 5 [0, 1, 2, 3, 5]).all (fun ps => chkP 6 (4 :: ps)) = true := by kernel_rfl
theorem plain65 : (allP 5 [0, 1, 2, 3, 4]).all (fun ps => chkP 6 (5 :: ps)) = true := by kernel_rfl
theorem plain6 : ∀ r ∈ List.range 6, ∀ qs ∈ allP 5 ((List.range 6).eraseIdx r), chkP 6 ((List.range 6).getD r 0 :: qs) = true :=
  show ∀ r ∈ [0, 1, 2, 3, 4, 5], ∀ qs ∈ allP 5 ((List.range 6).eraseIdx r), chkP 6 ((List.range 6).getD r 0 :: qs) = true from
  List.forall_mem_cons.mpr ⟨fun q => List.all_eq_true.mp plain60 q, List.forall_mem_cons.mpr ⟨fun q => List.all_eq_true.mp plain61 q, List.forall_mem_cons.mpr ⟨fun q => List.all_eq_true.mp plain62 q, List.forall_mem_cons.mpr ⟨fun q => List.all_eq_true.mp plain63 q,
    List.forall_mem_cons.mpr ⟨fun q => List.all_eq_true.mp plain64 q, List.forall_mem_cons.mpr ⟨fun q => List.all_eq_true.mp plain65 q, fun _ m => nomatch m⟩⟩⟩⟩⟩⟩
theorem plain {n : Nat} (hn : n = 5 ∨ n = 6) {ps : List Nat} (h : ps ∈ allP n (List.range n)) : ChkP n ps := by
  refine chkP_ok ?_
  rcases hn with rfl | rfl
  · exact List.all_eq_true.mp plain5 ps h
  · obtain ⟨r, mr, h⟩ := List.mem_flatMap.mp h
    obtain ⟨qs, mq, rfl⟩ := List.mem_map.mp h
    exact plain6 r mr qs mq


/-! the law's end -/
noncomputable def rmC (st i : Nat) : List Nat := [35, 32] ++ lineC i (cd st i)
theorem win_map : stn.map (fun p => win p.1 p.2) = stn.map fun p => (List.range p.2).map (cd p.1) := by kernel_rfl
theorem win_back : stn.map (fun p => backS (ss (win p.1 p.2))) = stn.map fun p => ss ((List.range p.2).reverse.map (cd p.1)) := by kernel_rfl
theorem rm_ok : sti.map (fun p => PyData.strOk (ss (rmC p.1 p.2))) = sti.map fun p => true := by kernel_rfl
theorem cd_inj : ((List.range 4).all fun st => (List.range 6).all fun x => (List.range 6).all fun y => bif Nat.beq (cd st x) (cd st y) then Nat.beq x y else true) = true := by kernel_rfl
theorem cd_ok {st : Nat} (h : st < 4) : ∀ x y, x < 6 → y < 6 → cd st x = cd st y → x = y := fun x y hx hy e => by
  have q := List.all_eq_true.mp (List.all_eq_true.mp (List.all_eq_true.mp cd_inj st (List.mem_range.mpr h)) x (List.mem_range.mpr hx)) y (List.mem_range.mpr hy)
  rw [e, Nat.beq_refl] at q
  exact Nat.eq_of_beq_eq_true q
theorem stn_mem {st n : Nat} (h : (st, n) ∈ stn) : st < 4 ∧ (n = 5 ∨ n = 6) := by
  have : stn.all (fun p => Nat.blt p.1 4 && (Nat.beq p.2 5 || Nat.beq p.2 6)) = true := by decide
  have q := List.all_eq_true.mp this _ h
  simp only [Bool.and_eq_true, Bool.or_eq_true] at q
  exact ⟨Nat.le_of_ble_eq_true q.1, q.2.imp Nat.eq_of_beq_eq_true Nat.eq_of_beq_eq_true⟩
structure LawF (F : Fn) (st n : Nat) : Prop where
  lin : ∀ i, i < 6 → F "_law_line" [.i (Int.ofNat i), .s (ss [cd st i])] = some (.s (ss (lineC i (cd st i))))
  clo : ∀ ps ts, ps ≠ [] → ps.Nodup → (∀ p ∈ ps, p < 6) → ps.length ≤ 9 → ts.length = ps.length → (∀ t ∈ ts, t ∈ tails) → F "_law_closed" [.list ((ps.zip ts).map fun q => .str (lnOf st q.1 q.2).l)] = some (.list ((pileN ps [] []).map fun i => .str (ss (rmC st i))))
  hal : ∀ O, O.length ≤ 6 → (∀ k ∈ O, k ∈ win st n) → F "_law_halved" [.s (ss (win st n)), .s (ss O)] = some (.s (ss (halC (win st n) 7 O)))
  onc : ∀ O, O.length ≤ 99 → F "_law_once" [.s (ss (win st n)), .s (ss O)] = some (.t (!((risC 3 (win st n)).any (q3 fun row => subSeq row O))))
  twi : ∀ O, O.length ≤ 99 → F "_law_twice" [.s (ss (win st n)), .s (ss O)] = some (.t (!((risC 4 (win st n)).any (q4 (win st n) fun row => subSeq row O))))
theorem comp_map {α : Type} {f : S → Option V} {g h : α → S} : ∀ (l : List α), (∀ x ∈ l, f (g x) = some (.sc (h x))) → compGo (fun i => some true) f (l.map g) = some (l.map h) := by
  intro l
  induction l with
  | nil => intro _; rfl
  | cons x l ih =>
    intro hf
    show (compGo (fun i => some true) f (l.map g)).bind _ = _
    rw [ih fun z m => hf z (List.mem_cons_of_mem _ m), Option.bind_some, if_pos rfl]
    show (f (g x)).bind _ = _
    rw [hf x (List.mem_cons_self ..)]; rfl
theorem ne_same {l : List Str} (h : l.all PyData.strOk = true) : cmpop .NotEq (.list (l.map .str)) (.list (l.map .str)) = some false := by
  have e : allStr (l.map .str) = some l := by
    clear h
    induction l with
    | nil => rfl
    | cons x l ih => show (allStr (l.map .str)).map (x :: ·) = _; rw [ih]; rfl
  show Option.map (!·) (Option.or (Option.bind (allStr (l.map .str)) fun x => (allStr (l.map .str)).bind fun y => if x.all PyData.strOk = true ∧ y.all PyData.strOk = true then some (decide (x = y)) else none) _) = _
  rw [e]
  show Option.map (!·) (Option.or (if l.all PyData.strOk = true ∧ l.all PyData.strOk = true then some (decide (l = l)) else none) _) = _
  rw [if_pos ⟨h, h⟩, decide_eq_true rfl]; rfl
theorem ss_beq (a b : List Nat) : (ss a == ss b) = (a == b) := by
  rw [Bool.eq_iff_iff, beq_iff_eq, beq_iff_eq]
  exact ⟨fun e => congrArg (fun x : Str => x.cps.toList) e, congrArg ss⟩
theorem map_beq {f : Nat → Nat} (hf : ∀ x y, x < 6 → y < 6 → f x = f y → x = y) : ∀ {a b : List Nat}, (∀ p ∈ a, p < 6) → (∀ p ∈ b, p < 6) → (a.map f == b.map f) = (a == b) := by
  intro a
  induction a with
  | nil => intro b _ _; cases b <;> rfl
  | cons x a ih =>
    intro b ha hb
    cases b with
    | nil => rfl
    | cons y b => show (f x == f y && (a.map f == b.map f)) = (x == y && (a == b)); rw [beq_map hf (ha x (List.mem_cons_self ..)) (hb y (List.mem_cons_self ..)), ih (fun z m => ha z (List.mem_cons_of_mem _ m)) fun z m => hb z (List.mem_cons_of_mem _ m)]
theorem zip_nil (st : Nat) : ∀ l : List Nat, (l.zip (l.map fun _ => ([] : List Nat))).map (fun q => S.str (lnOf st q.1 q.2).l) = l.map fun i => S.str (ss (lineC i (cd st i)))
  | [] => rfl
  | i :: l => by rw [List.map_cons, List.zip_cons_cons, List.map_cons, List.map_cons, zip_nil st l]; show S.str (ss (lineC i (cd st i) ++ [])) :: _ = _; rw [List.append_nil]
theorem halC_mem (sg : List Nat) : ∀ (k : Nat) (od : List Nat), ∀ x ∈ halC sg k od, x ∈ sg := by
  intro k
  induction k with
  | zero => intro od x m; cases m
  | succ k ih =>
    intro od x m
    unfold halC at m
    cases e : sg.filter (od.contains ·) with
    | nil => rw [e] at m; cases m
    | cons y r =>
      rw [e] at m
      rcases List.mem_append.mp m with m | m
      · exact (List.mem_append.mp m).elim (ih _ x) (ih _ x)
      · rw [List.mem_singleton.mp m]; exact (List.mem_filter.mp (e ▸ List.mem_cons_self .. : y ∈ sg.filter (od.contains ·))).1
section
variable {F M : Fn} {st n : Nat} {ps : List Nat} {ts : List (List Nat)} {sc dr stv x y z : V}
theorem rmk_at (L : LawF F st n) (hst : (st, n) ∈ stn) {p : Nat} (hp : p < n) : rmk F (ss (win st n)) (.str (ss [cd st p])) = some (.s (ss (rmC st p))) := by
  obtain ⟨h4, hn⟩ := stn_mem hst
  have hw := List.map_inj_left.mp win_map _ hst
  have hp6 : p < 6 := by omega
  have hl : ∀ y ∈ List.range n, y < 6 := fun y m => by have := List.mem_range.mp m; omega
  have hm : cd st p ∈ win st n := by rw [show win st n = _ from hw]; exact List.mem_map.mpr ⟨p, List.mem_range.mpr hp, rfl⟩
  have hi : (win st n).idxOf (cd st p) = p := by
    rw [show win st n = (List.range n).map (cd st) from hw, idxOf_map (cd_ok h4) hp6 hl]
    exact idx_uniq (by rw [List.getElem?_range hp]) fun j hj e => by rw [List.getElem?_range (by omega)] at e; injection e; omega
  have := lineC_len (c := cd st p) hp6
  have hx : strmeth .index (ss (win st n)) [.s (ss [cd st p])] = some (.i (Int.ofNat p)) := by
    show ((Builtin.Str.occurrences (ss (win st n)) (ss [cd st p]) 0 (ss (win st n)).length 1).head?.map fun k => V.i k) = _
    rw [occ_idx hm, hi]; rfl
  unfold rmk
  rw [hx]
  show Option.bind (Option.or (F "_law_line" [.i (Int.ofNat p), .s (ss [cd st p])]) none) _ = _
  rw [L.lin p hp6]
  exact add_ss (show 2 + _ ≤ 9999 by omega)
theorem law_end (L : LawF F st n) (hst : (st, n) ∈ stn) (C : ChkP n ps) (hts : ts.length = ps.length) (htl : ∀ t ∈ ts, t ∈ tails) :
    run (pmOf F M) scL 52 ⟨r0 sc dr stv (.s (ss (win st n))) (.s (ss (ps.map (cd st)))) [("draw", x), ("sign", y), ("depth", z)], [("left", .list []), ("page", .list ((ps.zip ts).map fun q => .str (lnOf st q.1 q.2).l))]⟩ (bL 8) = some (.ret (.t true)) := by
  obtain ⟨h4, hn⟩ := stn_mem hst
  have hf := cd_ok h4
  have hw : win st n = (List.range n).map (cd st) := List.map_inj_left.mp win_map _ hst
  have hl : ∀ y ∈ List.range n, y < 6 := fun y m => by have := List.mem_range.mp m; omega
  have l6 : ∀ {p}, p < n → p < 6 := fun h => by omega
  have hps : ∀ p ∈ ps, p < 6 := fun p m => l6 (C.lt p m)
  have hb := List.map_inj_left.mp win_back _ hst
  have lw : (ss (win st n)).length ≤ 9999 := by show (win st n).length ≤ 9999; rw [hw, List.length_map, List.length_range]; omega
  have hrm : ∀ l : List Nat, (∀ p ∈ l, p < n) → (l.map fun i => ss (rmC st i)).all PyData.strOk = true := fun l h => List.all_eq_true.mpr fun s m => by
    obtain ⟨i, mi, rfl⟩ := List.mem_map.mp m
    exact List.map_inj_left.mp rm_ok _ (mem_sti h4 (l6 (h i mi)))
  have h1 : halC (win st n) 7 (ps.map (cd st)) = (halC (List.range n) 7 ps).map (cd st) := by rw [hw]; exact halC_map hf hl 7 ps hps
  have h2 : halC (win st n) 7 ((halC (List.range n) 7 ps).map (cd st)) = (halC (List.range n) 7 (halC (List.range n) 7 ps)).map (cd st) := by rw [hw]; exact halC_map hf hl 7 _ fun p m => l6 (C.lt1 p m)
  have on : ∀ l : List Nat, (∀ p ∈ l, p < n) → ∀ k ∈ l.map (cd st), k ∈ win st n := fun l h k m => by obtain ⟨p, mp, rfl⟩ := List.mem_map.mp m; rw [hw]; exact List.mem_map.mpr ⟨p, List.mem_range.mpr (h p mp), rfl⟩
  have lt2 : ∀ p ∈ halC (List.range n) 7 (halC (List.range n) 7 ps), p < n := fun p m => List.mem_range.mp (halC_mem _ 7 _ p m)
  have ln2 := halC_len (List.range n) 7 (halC (List.range n) 7 ps)
  have e1 := C.len1
  have e0 := C.len
  have two := C.two
  have onc := C.onc
  have twi := C.twi
  have ne1 : halC (List.range n) 7 ps ≠ [] := fun e => by rw [e] at e1; simp at e1; omega
  have nd1 := C.nd1
  have lt1 := C.lt1
  have cl1 := L.clo ps ts (fun e => by rw [e] at e0; simp at e0; omega) C.nd hps (by omega) hts htl
  rw [C.one] at cl1
  have ha1 := L.hal (ps.map (cd st)) (by rw [List.length_map]; omega) (on ps C.lt)
  rw [h1] at ha1
  have ha2 := L.hal ((halC (List.range n) 7 ps).map (cd st)) (by rw [List.length_map]; omega) (on _ C.lt1)
  rw [h2] at ha2
  generalize halC (List.range n) 7 (halC (List.range n) 7 ps) = f2 at *
  generalize halC (List.range n) 7 ps = f1 at *
  have cl2 := L.clo f1 (f1.map fun _ => []) ne1 nd1 (fun p m => l6 (lt1 p m)) (by omega) (List.length_map ..) (fun t m => by obtain ⟨_, _, rfl⟩ := List.mem_map.mp m; simp [tails])
  rw [zip_nil, two] at cl2
  have cm : ∀ (f : List Nat), (∀ p ∈ f, p < n) → f.length ≤ 99 → ((itemsV (.s (ss (f.map (cd st))))).bind fun items => compGo (fun i => some true) (rmk F (ss (win st n))) items) = some (f.map fun i => .str (ss (rmC st i))) := fun f h hl => by
    rw [items_ss (by rw [List.length_map]; omega), Option.bind_some]
    show compGo _ _ ((f.map (cd st)).map fun k => S.str (ss [k])) = _
    rw [List.map_map]
    exact comp_map f fun p m => rmk_at L hst (h p m)
  have nes : ∀ (f : List Nat), (∀ p ∈ f, p < n) → cmpop .NotEq (.list (f.map fun i => .str (ss (rmC st i)))) (.list (f.map fun i => .str (ss (rmC st i)))) = some false := fun f h => by
    have := ne_same (hrm f h)
    rw [List.map_map] at this
    exact this
  refine run_step (r' := ⟨r1 sc dr stv (.s (ss (win st n))) (.s (ss (ps.map (cd st)))) x y z (.list ((ps.zip ts).map fun q => .str (lnOf st q.1 q.2).l)) [("closed", .list (f1.map fun i => .str (ss (rmC st i))))], w0⟩) (by kernel_rfl) ((le8 F M _ _ _ _ _ _ _ _ _ _).trans (by rw [cl1]; rfl)) ?_
  refine run_step (r' := ⟨r1 sc dr stv (.s (ss (win st n))) (.s (ss (ps.map (cd st)))) x y z (.list ((ps.zip ts).map fun q => .str (lnOf st q.1 q.2).l)) [("closed", .list (f1.map fun i => .str (ss (rmC st i)))), ("again", .list (f2.map fun i => .str (ss (rmC st i))))], w0⟩) (by kernel_rfl) ((le9 F M _ _ _ _ _ _ _ _ _ _ _).trans ?_) ?_
  · rw [items_list (by rw [List.length_map]; omega), Option.bind_some, comp_map (h := fun i => S.str (ss (lineC i (cd st i)))) f1 fun p m => by
      have := lineC_len (c := cd st p) (l6 (lt1 p m))
      have el : (rmC st p).length = (lineC p (cd st p)).length + 2 := rfl
      show Option.or (slicev (.s (ss (rmC st p))) (some 2) none) none = _
      rw [slicev_ss (by omega), show (2 : Int) = ((2 : Nat) : Int) from rfl, slice_drop (by omega)]; rfl]
    show Option.or (Option.map Out.next (Option.bind (Option.or (F "_law_closed" [.list (f1.map fun i => S.str (ss (lineC i (cd st i))))]) none) _)) none = _
    rw [cl2]; rfl
  refine run_step (by kernel_rfl) ((le10 F M _ _ _ _ _ _ _ _ _ _ _ _).trans (by rw [ha1]; rfl)) (run_step (by kernel_rfl) ((le11 F M _ _ _ _ _ _ _ _ _ _ _ _ _).trans (by rw [ha2]; rfl)) ?_)
  have s12 := le12 F M (f1.map fun i => .str (ss (rmC st i))) (f2.map fun i => .str (ss (rmC st i))) (run (pmOf F M) scL 47) sc dr stv x y z (.s (ss (ps.map (cd st)))) (.list ((ps.zip ts).map fun q => .str (lnOf st q.1 q.2).l)) (ss (win st n)) (ss (f1.map (cd st))) (ss (f2.map (cd st)))
  rw [cm f1 lt1 (by omega), Option.map_some, Option.bind_some, nes f1 lt1] at s12
  have s13 := le13 F M (f1.map fun i => .str (ss (rmC st i))) (f2.map fun i => .str (ss (rmC st i))) (run (pmOf F M) scL 46) sc dr stv x y z (.s (ss (ps.map (cd st)))) (.list ((ps.zip ts).map fun q => .str (lnOf st q.1 q.2).l)) (ss (win st n)) (ss (f1.map (cd st))) (ss (f2.map (cd st)))
  rw [cm f2 lt2 (by omega), Option.map_some, Option.bind_some, nes f2 lt2] at s13
  have s14 := le14 F M (f1.map fun i => .str (ss (rmC st i))) (f2.map fun i => .str (ss (rmC st i))) (run (pmOf F M) scL 45) sc dr stv x y z (.s (ss (ps.map (cd st)))) (.list ((ps.zip ts).map fun q => .str (lnOf st q.1 q.2).l)) (ss (win st n)) (ss (f1.map (cd st))) (ss (f2.map (cd st)))
  rw [if_pos ⟨rfl, lw⟩, show backS (ss (win st n)) = _ from hb] at s14
  refine run_step (by kernel_rfl) (s12.trans (by rw [Option.bind_some, if_neg Bool.false_ne_true]; kernel_rfl)) (run_step (by kernel_rfl) (s13.trans (by rw [Option.bind_some, if_neg Bool.false_ne_true]; kernel_rfl)) (run_step (by kernel_rfl) (s14.trans rfl) (run_ret (by kernel_rfl) ((le15 F M _ _ _ _ _ _ _ _ _ _ _ _ _ _ _).trans ?_))))
  have rv6 : ∀ p ∈ (List.range n).reverse, p < 6 := fun p m => hl p (List.mem_reverse.mp m)
  rw [L.onc _ (by rw [List.length_map]; omega), L.twi _ (by rw [List.length_map]; omega), ss_beq, ss_beq, map_beq hf (fun p m => l6 (lt1 p m)) rv6, map_beq hf (fun p m => l6 (lt2 p m)) rv6, hw, once_map hf hl hps, twice_map hf hl hps, onc, twi]
  cases (!((risC 3 (List.range n)).any (q3 fun row => subSeq row ps))) <;> cases (!((risC 4 (List.range n)).any (q4 (List.range n) fun row => subSeq row ps))) <;> rfl
end


/-! the law -/
section
variable {F M : Fn}
theorem law_from {st n : Nat} (L : LawF F st n) (hst : (st, n) ∈ stn) {sc stv : V} {D : List Int} (hD : D.length = n) :
    run (pmOf F M) scL 53 ⟨r0 sc (.list (D.map .int)) stv (.s (ss (win st n))) (.s (ss [])) [], [("left", .list (ch (win st n))), ("page", .list [])]⟩ (bL 7) = some (.ret (.t true)) := by
  obtain ⟨h4, hn⟩ := stn_mem hst
  have hw : win st n = (List.range n).map (cd st) := List.map_inj_left.mp win_map _ hst
  obtain ⟨ps, ts, tl, m1, m2, m3, m4, e⟩ := law_loop (F := F) (M := M) (sc := sc) (dr := .list (D.map .int)) (stv := stv) hst h4 L.lin D (List.range n) [] [] [] (.inl rfl) (by rw [List.length_range, hD]) (fun p m => by have := List.mem_range.mp m; omega) (by rw [List.length_range]; show 0 + n ≤ 99; omega) (by rw [List.length_range]; show 0 + n ≤ 99; omega)
  rw [hD] at m1
  have C := plain hn m1
  obtain ⟨x, y, z, rfl⟩ := m4 fun q => by rw [q] at hD; simp at hD; omega
  refine run_step (by kernel_rfl) ((la7 F M [] _ _ sc stv (.s (ss [])) (.s (ss (win st n))) (D.map .int) []).trans (Eq.trans ?_ e)) (law_end L hst C m2 m3)
  rw [items_list (by rw [List.length_map]; omega), Option.map_some, Option.bind_some, List.map_map]
  exact congrArg (fun L => forGo (putT scL (lp sL).t) (fun r => run (pmOf F M) scL 52 r (lp sL).b) (D.map V.i) ⟨r0 sc (.list (D.map .int)) stv (.s (ss (win st n))) (.s (ss [])) [], [("left", .list (ch L)), ("page", .list [])]⟩) hw
theorem start_at (a : Int) : a / 24 % 4 = 0 ∨ a / 24 % 4 = 1 ∨ a / 24 % 4 = 2 ∨ a / 24 % 4 = 3 := int4 (Int.emod_nonneg _ (by decide)) (Int.emod_lt_of_pos _ (by decide))
theorem law_st {st n : Nat} (L : LawF F st n) (hst : (st, n) ∈ stn) {l : List S} {stv : V} {D : List Int} (hD : D.length = n)
    (h1 : stepS (evs (pmOf F M) 56) scL (run (pmOf F M) scL 56) 56 ⟨[("script", .list l), ("draws", .list (D.map .int)), ("start", stv)], []⟩ (hd (bL 3)) = some (.next ⟨[("script", .list l), ("draws", .list (D.map .int)), ("start", stv), ("signs", .s (ss (win st n)))], []⟩))
    (h2 : stepS (evs (pmOf F M) 55) scL (run (pmOf F M) scL 55) 55 ⟨[("script", .list l), ("draws", .list (D.map .int)), ("start", stv), ("signs", .s (ss (win st n)))], []⟩ (hd (bL 4)) = some (.next ⟨[("script", .list l), ("draws", .list (D.map .int)), ("start", stv), ("signs", .s (ss (win st n)))], [("left", .list (ch (win st n)))]⟩)) :
    run (pmOf F M) scL 57 ⟨[("script", .list l), ("draws", .list (D.map .int)), ("start", stv)], []⟩ (bL 3) = some (.ret (.t true)) :=
  run_step (by kernel_rfl) h1 (run_step (by kernel_rfl) h2 (run_step (r' := ⟨r0 (.list l) (.list (D.map .int)) stv (.s (ss (win st n))) (.s (ss [])) [], [("left", .list (ch (win st n)))]⟩) (by kernel_rfl) (by kernel_rfl) (run_step (by kernel_rfl) (by kernel_rfl) (law_from (sc := .list l) (stv := stv) L hst hD))))
theorem stn_in {p : Nat × Nat} (h : stn.contains p = true) : p ∈ stn := List.contains_iff_mem.mp h
theorem law5 (L : ∀ st n, (st, n) ∈ stn → LawF F st n) (l : List S) (a b c d e : Int) : run (pmOf F M) scL 58 ⟨[("script", .list l), ("draws", .list ([a, b, c, d, e].map .int))], []⟩ (bL 2) = some (.ret (.t true)) := by
  refine run_step (by kernel_rfl) (la2 F M _ (.list l) a _) ?_
  rcases start_at a with h | h | h | h <;> rw [h]
  · exact law_st (L _ _ (stn_in (p := (0, 5)) rfl)) (stn_in (p := (0, 5)) rfl) (D := [a, b, c, d, e]) rfl (by kernel_rfl) (by kernel_rfl)
  · exact law_st (L _ _ (stn_in (p := (1, 5)) rfl)) (stn_in (p := (1, 5)) rfl) (D := [a, b, c, d, e]) rfl (by kernel_rfl) (by kernel_rfl)
  · exact law_st (L _ _ (stn_in (p := (2, 5)) rfl)) (stn_in (p := (2, 5)) rfl) (D := [a, b, c, d, e]) rfl (by kernel_rfl) (by kernel_rfl)
  · exact law_st (L _ _ (stn_in (p := (3, 5)) rfl)) (stn_in (p := (3, 5)) rfl) (D := [a, b, c, d, e]) rfl (by kernel_rfl) (by kernel_rfl)
theorem law6 (L : ∀ st n, (st, n) ∈ stn → LawF F st n) (l : List S) (a b c d e f : Int) : run (pmOf F M) scL 58 ⟨[("script", .list l), ("draws", .list ([a, b, c, d, e, f].map .int))], []⟩ (bL 2) = some (.ret (.t true)) := by
  refine run_step (by kernel_rfl) (la2 F M _ (.list l) a _) ?_
  rcases start_at a with h | h | h | h <;> rw [h]
  · exact law_st (L _ _ (stn_in (p := (0, 6)) rfl)) (stn_in (p := (0, 6)) rfl) (D := [a, b, c, d, e, f]) rfl (by kernel_rfl) (by kernel_rfl)
  · exact law_st (L _ _ (stn_in (p := (1, 6)) rfl)) (stn_in (p := (1, 6)) rfl) (D := [a, b, c, d, e, f]) rfl (by kernel_rfl) (by kernel_rfl)
  · exact law_st (L _ _ (stn_in (p := (2, 6)) rfl)) (stn_in (p := (2, 6)) rfl) (D := [a, b, c, d, e, f]) rfl (by kernel_rfl) (by kernel_rfl)
  · exact law_st (L _ _ (stn_in (p := (3, 6)) rfl)) (stn_in (p := (3, 6)) rfl) (D := [a, b, c, d, e, f]) rfl (by kernel_rfl) (by kernel_rfl)
theorem clip6 (n : Nat) : clipAt n 6 = min 6 n := by
  unfold clipAt
  rw [if_neg (by decide)]
  rcases Nat.le_total n 6 with h | h
  · rw [Int.min_eq_right (show ((n : Nat) : Int) ≤ 6 from Int.ofNat_le.mpr h), Int.max_eq_right (Int.natCast_nonneg _), Nat.min_eq_right h]; rfl
  · rw [Int.min_eq_left (show (6 : Int) ≤ ((n : Nat) : Int) from Int.ofNat_le.mpr h), Nat.min_eq_left h]; rfl
theorem law_pad (L : ∀ st n, (st, n) ∈ stn → LawF F st n) (l : List S) (D : List Int) (h : D.length ≤ 6) : run (pmOf F M) scL 59 ⟨[("script", .list l), ("draws", .list (D.map .int))], []⟩ (bL 1) = some (.ret (.t true)) := by
  match D, h with
  | [], _ => exact run_step (r' := ⟨[("script", .list l), ("draws", .list ([12, 8, 19, 6, 13].map .int))], []⟩) (by kernel_rfl) (by kernel_rfl) (law5 L l 12 8 19 6 13)
  | [a], _ => exact run_step (r' := ⟨[("script", .list l), ("draws", .list ([a, 8, 19, 6, 13].map .int))], []⟩) (by kernel_rfl) (by kernel_rfl) (law5 L l a 8 19 6 13)
  | [a, b], _ => exact run_step (r' := ⟨[("script", .list l), ("draws", .list ([a, b, 19, 6, 13].map .int))], []⟩) (by kernel_rfl) (by kernel_rfl) (law5 L l a b 19 6 13)
  | [a, b, c], _ => exact run_step (r' := ⟨[("script", .list l), ("draws", .list ([a, b, c, 6, 13].map .int))], []⟩) (by kernel_rfl) (by kernel_rfl) (law5 L l a b c 6 13)
  | [a, b, c, d], _ => exact run_step (r' := ⟨[("script", .list l), ("draws", .list ([a, b, c, d, 13].map .int))], []⟩) (by kernel_rfl) (by kernel_rfl) (law5 L l a b c d 13)
  | [a, b, c, d, e], _ => exact run_step (r' := ⟨[("script", .list l), ("draws", .list ([a, b, c, d, e].map .int))], []⟩) (by kernel_rfl) (by kernel_rfl) (law5 L l a b c d e)
  | [a, b, c, d, e, f], _ => exact run_step (r' := ⟨[("script", .list l), ("draws", .list ([a, b, c, d, e, f].map .int))], []⟩) (by kernel_rfl) (by kernel_rfl) (law6 L l a b c d e f)
  | _ :: _ :: _ :: _ :: _ :: _ :: _ :: _, h => simp at h
theorem law_run (L : ∀ st n, (st, n) ∈ stn → LawF F st n) {ns : List Int} (hl : ns.length ≤ 9999) : runF F M fLaw ["script"] [.list (ns.map .int)] = some (.t true) := by
  refine run_val rfl ?_
  have e1 : slicev (.list (ns.map .int)) none (some 6) = some (.list ((ns.take 6).map .int)) := by
    show Option.or none (if (ns.map S.int).length ≤ 9999 then some (V.list (cut (ns.map .int) none (some 6))) else none) = _
    rw [if_pos (by rw [List.length_map]; exact hl)]
    show some (V.list (((ns.map S.int).drop 0).take (clipAt (ns.map S.int).length 6 - 0))) = _
    rw [List.drop_zero, List.map_take, Nat.sub_zero, clip6, List.take_eq_take_iff.mpr (show min (min 6 (ns.map S.int).length) (ns.map S.int).length = min 6 (ns.map S.int).length from Nat.min_eq_left (Nat.min_le_right _ _))]
  refine run_step (r' := ⟨[("script", .list (ns.map .int)), ("draws", .list (((ns.take 6).map (· % 1000000)).map .int))], []⟩) (by kernel_rfl) ((la0 F M (ns.map .int) _).trans ?_) (law_pad L _ _ (by rw [List.length_map, List.length_take]; omega))
  have hlt : (ns.take 6).length ≤ 6 := by rw [List.length_take]; omega
  rw [e1, Option.some_or, Option.bind_some, items_list (by rw [List.length_map]; omega), Option.bind_some, comp_map (h := fun x : Int => S.int (x % 1000000)) (ns.take 6) fun x _ => rfl, List.map_map]; rfl
end


/-! the tables of what is called, and that they tell the truth -/
noncomputable def M1 : Fn := fun f vs => if f = "longest_run_of_spaces" then runF F0 F0 fRun ["self"] vs else if f = "indent_level" then runF F0 F0 fInd ["self", "tabsize"] vs else none
noncomputable def M2 : Fn := fun f vs => if f = "less" then runF F0 M1 fLess ["self", "other"] vs else none
noncomputable def wsF (vs : List V) : Option V := (one vs).bind fun v => v.asS.bind fun l => (wsTab.lookup l).map .ws
noncomputable def F2 : Fn := fun f vs => if f = "_law_stand" then runF F1 F0 fSta ["row", "order"] vs else if f = "Whitespace" then wsF vs else if f = "_law_rising" then FR 5 f vs else if f = "_law_halved" then FH 7 f vs else F1 f vs
noncomputable def F3 : Fn := fun f vs => if f = "_law_once" then runF F2 M2 fOnc ["signs", "order"] vs else if f = "_law_twice" then runF F2 M2 fTwi ["signs", "order"] vs else if f = "_law_closed" then runF F2 M2 fClo ["page"] vs else F2 f vs
theorem less_all (r q : Str) : ((List.range 6).flatMap fun d => (List.range 6).map fun e => runF F0 M1 fLess ["self", "other"] [.ws (WSd d r), .ws (WSd e q)]) = (List.range 6).flatMap fun d => (List.range 6).map fun e => some (V.t (Nat.blt d e)) := by kernel_rfl
theorem iteF {α : Type} {f g : Str} {a b : Option α} {v : α} {C : Prop} (h : (if f = g then a else b) = some v) (k : f = g → a = some v → C) (l : b = some v → C) : C := by
  by_cases e : f = g
  · rw [if_pos e] at h; exact k e h
  · rw [if_neg e] at h; exact l h
theorem CallOk.up {c : Cx} {d d' : Nat} {f : Value} {vs : List V} {v : V} (h : CallOk c d f vs v) (l : d ≤ d') : CallOk c d' f vs v := fun A s hid ms Q E r => h A s hid ms Q E ⟨r.hh, by have := r.depth; omega, by have := r.units; omega⟩
section
variable {prog : Program} {w : World} {H : Heap} {mg mb : Str → Option Value} (o : (cxOf prog w H mg mb).Ok)
@[reducible] noncomputable def SF (prog : Program) (w : World) (H : Heap) (mg mb : Str → Option Value) (d : Nat) (F : Fn) : Prop := ∀ f vs v, F f vs = some v → ∃ fv, (cxOf prog w H mg mb).fa f = some fv ∧ CallOk (cxOf prog w H mg mb) d fv vs v
@[reducible] noncomputable def SM' (prog : Program) (w : World) (H : Heap) (mg mb : Str → Option Value) (d : Nat) (M : Fn) : Prop := ∀ f vs v, M f vs = some v → ∃ a, (cxOf prog w H mg mb).ma f = some a ∧ CallOk (cxOf prog w H mg mb) d (.ref a) vs v
theorem SF.up {d d' : Nat} {F : Fn} (h : SF prog w H mg mb d F) (l : d ≤ d') : SF prog w H mg mb d' F := fun f vs v e => (h f vs v e).elim fun fv q => ⟨fv, q.1, q.2.up l⟩
theorem f0 (d : Nat) : SF prog w H mg mb d F0 := fun _ _ _ h => nomatch h
theorem m0 (d : Nat) : SM' prog w H mg mb d F0 := fun _ _ _ h => nomatch h
include o
theorem f1 : SF prog w H mg mb 1 F1 := fun f vs v h =>
  iteF h (fun e h => ⟨.ref 28, by rw [e]; kernel_rfl, call_run o ⟨f0 0, m0 0⟩ dEll (by kernel_rfl) h⟩) fun h =>
  iteF h (fun e h => ⟨.ref 35, by rw [e]; kernel_rfl, call_run o ⟨f0 0, m0 0⟩ dCom (by kernel_rfl) h⟩) fun h =>
  iteF h (fun e h => ⟨.ref 111, by rw [e]; kernel_rfl, call_run o ⟨f0 0, m0 0⟩ dEof (by kernel_rfl) h⟩) fun h =>
  iteF h (fun e h => ⟨.ref 118, by rw [e]; kernel_rfl, call_run o ⟨f0 0, m0 0⟩ dLin (by kernel_rfl) h⟩) fun h => nomatch h
theorem m1 : SM' prog w H mg mb 1 M1 := fun f vs v h =>
  iteF h (fun e h => ⟨59, by rw [e]; kernel_rfl, call_run o ⟨f0 0, m0 0⟩ dRun (by kernel_rfl) h⟩) fun h =>
  iteF h (fun e h => ⟨66, by rw [e]; kernel_rfl, call_run o ⟨f0 0, m0 0⟩ dInd (by kernel_rfl) h⟩) fun h => nomatch h
theorem m2 : SM' prog w H mg mb 8 M2 := fun f vs v h =>
  iteF h (fun e h => ⟨87, by rw [e]; kernel_rfl, (call_run o ⟨f0 1, m1 o⟩ dLess (by kernel_rfl) h).up (by decide)⟩) fun h => nomatch h
theorem fr : ∀ n, SF prog w H mg mb n (FR n)
  | 0 => f0 0
  | n + 1 => fun f vs v h => iteF h (fun e h => ⟨.ref 137, by rw [e]; kernel_rfl, call_run o ⟨fr n, m0 n⟩ dRis (by kernel_rfl) h⟩) fun h => nomatch h
theorem fh : ∀ n, SF prog w H mg mb n (FH n)
  | 0 => f0 0
  | n + 1 => fun f vs v h => iteF h (fun e h => ⟨.ref 130, by rw [e]; kernel_rfl, call_run o ⟨fh n, m0 n⟩ dHal (by kernel_rfl) h⟩) fun h => nomatch h
theorem ini_shape : ∃ p1 p2 p3 p4 p5 q1 q2 q3 q4 q5 r1 r2 r3 r4 r5 : Pos, fIni.body = .Assign [.Attribute (.Name "self" p1) "raw" q1] iIni.e1 r1 :: (iIni.mid ++ [.Assign [.Attribute (.Name "self" p2) "n" q2] iIni.e2 r2, .Assign [.Attribute (.Name "self" p3) "nt" q3] iIni.e3 r3, .Assign [.Attribute (.Name "self" p4) "norm" q4] iIni.e4 r4, .Assign [.Attribute (.Name "self" p5) "is_simple" q5] iIni.e5 r5]) :=
  ⟨_, _, _, _, _, _, _, _, _, _, _, _, _, _, _, rfl⟩
theorem ws_ok {l : Str} {x : WS} (h : wsTab.lookup l = some x) : CallOk (cxOf prog w H mg mb) 2 (.ref 97) [.s l] (.ws x) := by
  obtain ⟨p, mp, e⟩ := List.mem_map.mp (mem_of_lookup h)
  obtain ⟨e1, e2⟩ := Prod.mk.inj e
  obtain ⟨p1, p2, p3, p4, p5, q1, q2, q3, q4, q5, r1, r2, r3, r4, r5, sh⟩ := ini_shape o
  have D := dIni (prog := prog) (w := w) (H := H) (mg := mg) (mb := mb)
  rw [sh] at D
  subst e1 e2
  exact make_ok (pm_ok o ⟨f0 0, m0 0⟩) cls_ok (I := iIni) (n := 40) D (by kernel_rfl) (by kernel_rfl) (by kernel_rfl) (by kernel_rfl) (by kernel_rfl) (by kernel_rfl) (by kernel_rfl) fun y => iniAll y p mp
theorem f2 : SF prog w H mg mb 8 F2 := fun f vs v h =>
  iteF h (fun e h => ⟨.ref 144, by rw [e]; kernel_rfl, (call_run o ⟨f1 o, m0 1⟩ dSta (by kernel_rfl) h).up (by decide)⟩) fun h =>
  iteF h (fun e h => bind2K h fun a l h1 h2 h => mapK h fun x h3 h4 => ⟨.ref 97, by rw [e]; kernel_rfl, by rw [one_eq h1, asS_eq h2, ← h4]; exact (ws_ok o h3).up (by decide)⟩) fun h =>
  iteF h (fun e h => SF.up (fr o 5) (by decide) f vs v h) fun h => iteF h (fun e h => SF.up (fh o 7) (by decide) f vs v h) fun h => SF.up (f1 o) (by decide) f vs v h
theorem f3 : SF prog w H mg mb 9 F3 := fun f vs v h =>
  iteF h (fun e h => ⟨.ref 151, by rw [e]; kernel_rfl, call_run o ⟨f2 o, m2 o⟩ dOnc (by kernel_rfl) h⟩) fun h =>
  iteF h (fun e h => ⟨.ref 156, by rw [e]; kernel_rfl, call_run o ⟨f2 o, m2 o⟩ dTwi (by kernel_rfl) h⟩) fun h =>
  iteF h (fun e h => ⟨.ref 125, by rw [e]; kernel_rfl, call_run o ⟨f2 o, m2 o⟩ dClo (by kernel_rfl) h⟩) fun h => SF.up (f2 o) (by decide) f vs v h
end


/-! what the tables say -/
theorem rows_len : (stn.flatMap fun p => rowsOf (win p.1 p.2)).all (fun row => Nat.ble row.length 9) = true := by kernel_rfl
theorem F3_once (vs : List V) : F3 "_law_once" vs = runF F2 M2 fOnc ["signs", "order"] vs := by kernel_rfl
theorem F3_twice (vs : List V) : F3 "_law_twice" vs = runF F2 M2 fTwi ["signs", "order"] vs := by kernel_rfl
theorem F3_clo (vs : List V) : F3 "_law_closed" vs = runF F2 M2 fClo ["page"] vs := by kernel_rfl
theorem F3_lin (vs : List V) : F3 "_law_line" vs = runF F0 F0 fLin ["depth", "sign"] vs := by kernel_rfl
theorem F3_hal (vs : List V) : F3 "_law_halved" vs = FH 7 "_law_halved" vs := by kernel_rfl
theorem F2_sta (vs : List V) : F2 "_law_stand" vs = runF F1 F0 fSta ["row", "order"] vs := by kernel_rfl
theorem F2_ris (vs : List V) : F2 "_law_rising" vs = FR 5 "_law_rising" vs := by kernel_rfl
theorem F2_ws (vs : List V) : F2 "Whitespace" vs = wsF vs := by kernel_rfl
theorem F2_com (vs : List V) : F2 "_comment_line" vs = runF F0 F0 fCom ["line"] vs := by kernel_rfl
theorem F2_eof (i : Int) : F2 "ISEOF" [.i i] = some (.t (i == 0)) := by kernel_rfl
theorem F1_ell (vs : List V) : F1 "_ellipsis_match" vs = runF F0 F0 fEll ["want", "got"] vs := by kernel_rfl
theorem M2_less (vs : List V) : M2 "less" vs = runF F0 M1 fLess ["self", "other"] vs := by kernel_rfl
theorem flat_inj {α β γ : Type} {l : List α} {R : α → List β} {f g : β → γ} (h : (l.flatMap fun p => (R p).map f) = l.flatMap fun p => (R p).map g) {p : α} (mp : p ∈ l) {x : β} (mx : x ∈ R p) : f x = g x := by
  rw [← List.map_flatMap, ← List.map_flatMap] at h
  exact List.map_inj_left.mp h x (List.mem_flatMap.mpr ⟨p, mp, mx⟩)
theorem wantC_len (row : List Nat) : (wantC row).length = 3 + 4 * row.length := by
  unfold wantC
  rw [List.length_append]
  congr 1
  induction row with
  | nil => rfl
  | cons x r ih => rw [List.flatMap_cons, List.length_append, ih]; show 4 + 4 * r.length = 4 * (r.length + 1); omega
theorem stand_at {st n : Nat} (hst : (st, n) ∈ stn) {row O : List Nat} (hr : row ∈ rowsOf (win st n)) (hO : O.length ≤ 99) : F2 "_law_stand" [.s (ss row), .s (ss O)] = some (.t (subSeq row O)) := by
  have hl : row.length ≤ 9 := Nat.le_of_ble_eq_true (List.all_eq_true.mp rows_len row (List.mem_flatMap.mpr ⟨_, hst, hr⟩))
  obtain ⟨h1, h2⟩ := Prod.mk.inj (List.map_inj_left.mp (spl _ hst) row hr)
  rw [F2_sta]
  refine run_val rfl (run_ret (by kernel_rfl) ((flat_inj (sta F1 F0 (ss O) (run (pmOf F1 F0) fSta.scope.names 59)) hst hr).trans ?_))
  show Option.map Out.ret (Option.or (F1 "_ellipsis_match" [.s (ss (wantC row)), .s (ss O)]) none) = _
  rw [F1_ell, ell_run hO (by omega) (by show (wantC row).length ≤ 9999; rw [wantC_len]; omega) h1 h2]; rfl
theorem mem_p3 {l w : List Nat} (m : w ∈ risC 3 l) : p3 w ∈ rowsOf l := List.mem_append_left _ (List.mem_map_of_mem m)
theorem mem_p4 {l w q : List Nat} (m : w ∈ risC 4 l) (h : q ∈ p4 w) : q ∈ rowsOf l := List.mem_append_right _ (List.mem_flatMap.mpr ⟨w, m, List.mem_append_left _ h⟩)
theorem mem_p5 {l w : List Nat} {k : Nat} (m : w ∈ risC 4 l) (h : k ∈ l.take (l.idxOf (w.headD 0))) : p5 k w ∈ rowsOf l := List.mem_append_right _ (List.mem_flatMap.mpr ⟨w, m, List.mem_append_right _ (List.mem_map_of_mem h)⟩)
theorem ris_len : stn.all (fun p => Nat.ble (risC 3 (win p.1 p.2)).length 99 && Nat.ble (risC 4 (win p.1 p.2)).length 99 && Nat.ble (win p.1 p.2).length 9 && (win p.1 p.2).all fun k => PyData.strOk (ss [k])) = true := by kernel_rfl
theorem lin_at {p : Nat × Nat} (h : p ∈ sti) : runF F0 F0 fLin ["depth", "sign"] [.i (Int.ofNat p.2), .s (ss [cd p.1 p.2])] = some (V.s (ss (lineC p.2 (cd p.1 p.2)))) := List.map_inj_left.mp lin p h
theorem once_at {st n : Nat} (hst : (st, n) ∈ stn) {O : List Nat} (hO : O.length ≤ 99) : F3 "_law_once" [.s (ss (win st n)), .s (ss O)] = some (.t (!((risC 3 (win st n)).any (q3 fun row => subSeq row O)))) := by
  have r := List.all_eq_true.mp ris_len _ hst
  simp only [Bool.and_eq_true] at r
  rw [F3_once]
  refine once_run (st := fun row => subSeq row O) (by have := Nat.le_of_ble_eq_true r.1.1.1; omega) ((F2_ris [.s (ss (win st n)), V.i 3]).trans (ris3 (st, n) hst)) fun w m => ?_
  obtain ⟨x, y, z, rfl⟩ := ln3 (risC_mem _ 3 w m).1
  exact ⟨x, y, z, rfl, stand_at hst (row := [y, x, z]) (mem_p3 (w := [x, y, z]) m) hO⟩
theorem twice_at {st n : Nat} (hst : (st, n) ∈ stn) {O : List Nat} (hO : O.length ≤ 99) : F3 "_law_twice" [.s (ss (win st n)), .s (ss O)] = some (.t (!((risC 4 (win st n)).any (q4 (win st n) fun row => subSeq row O)))) := by
  have r := List.all_eq_true.mp ris_len _ hst
  simp only [Bool.and_eq_true] at r
  rw [F3_twice]
  refine twice_run (st := fun row => subSeq row O) (by have := Nat.le_of_ble_eq_true r.1.1.2; omega) (by have := Nat.le_of_ble_eq_true r.1.2; omega) (fun k m => List.all_eq_true.mp r.2 k m) ((F2_ris [.s (ss (win st n)), V.i 4]).trans (ris4 (st, n) hst)) fun w m => ?_
  obtain ⟨h1, h2⟩ := risC_mem _ 4 w m
  obtain ⟨x, y, z, u, rfl⟩ := ln4 h1
  exact ⟨x, y, z, u, rfl, h2 x (List.mem_cons_self ..), stand_at hst (row := [z, y, x, u]) (mem_p4 (w := [x, y, z, u]) m (List.mem_cons_self ..)) hO, stand_at hst (row := [y, z, x, u]) (mem_p4 (w := [x, y, z, u]) m (List.mem_cons_of_mem _ (List.mem_cons_self ..))) hO, fun k mk => stand_at hst (row := [y, k, z, x, u]) (mem_p5 (w := [x, y, z, u]) m mk) hO⟩

theorem lookI_at {α β : Type} (f : α → Int) (g : α → β) {t : Int} : ∀ {l : List α}, t ∈ l.map f → ∃ x ∈ l, f x = t ∧ lookI (l.map f) (l.map g) t = some (g x) := by
  intro l
  induction l with
  | nil => intro m; cases m
  | cons y l ih =>
    intro m
    rw [List.map_cons, List.map_cons, lookI_cons]
    by_cases e : t = f y
    · rw [if_pos e]; exact ⟨y, List.mem_cons_self .., e.symm, rfl⟩
    · rw [if_neg e]
      obtain ⟨x, m, h⟩ := ih ((List.mem_cons.mp m).resolve_left e)
      exact ⟨x, List.mem_cons_of_mem _ m, h⟩
theorem mem_lns {st i : Nat} {t : List Nat} (h4 : st < 4) (h6 : i < 6) (ht : t ∈ tails) : (st, i, t) ∈ lns := List.mem_flatMap.mpr ⟨st, List.mem_range.mpr h4, List.mem_flatMap.mpr ⟨i, List.mem_range.mpr h6, List.mem_map.mpr ⟨t, ht, rfl⟩⟩⟩
theorem ln_ok {st i : Nat} {t : List Nat} (h4 : st < 4) (h6 : i < 6) (ht : t ∈ tails) : LnOk F2 (lnOf st i t) := by
  have m := mem_lns h4 h6 ht
  obtain ⟨h1, h2⟩ := Prod.mk.inj (List.map_inj_left.mp ln_tok _ m)
  obtain ⟨h2, h3⟩ := Prod.mk.inj h2
  exact ⟨Nat.le_of_ble_eq_true h3, h1, by
    rw [F2_ws]
    show Option.map V.ws (wsTab.lookup (lnOf st i t).l) = _
    rw [show wsTab.lookup (lnOf st i t).l = some (lnOf st i t).w from List.map_inj_left.mp ln_ws _ m]; rfl, (F2_com _).trans h2⟩
theorem less_at {i j : Nat} (hi : i < 6) (hj : j < 6) (r q : Str) : M2 "less" [.ws (WSd i r), .ws (WSd j q)] = some (.t (Nat.blt i j)) := (M2_less _).trans <|
  List.map_inj_left.mp (show ((List.range 6).map fun e => runF F0 M1 fLess ["self", "other"] [.ws (WSd i r), .ws (WSd e q)]) = (List.range 6).map fun e => some (V.t (Nat.blt i e)) by
    have h : ((List.range 6).flatMap fun d => ((List.range 6).map fun e => (d, e)).map fun p => runF F0 M1 fLess ["self", "other"] [.ws (WSd p.1 r), .ws (WSd p.2 q)]) = (List.range 6).flatMap fun d => ((List.range 6).map fun e => (d, e)).map fun p => some (V.t (Nat.blt p.1 p.2)) := by simp only [List.map_map]; exact less_all r q
    exact List.map_congr_left fun e me => flat_inj h (List.mem_range.mpr hi) (x := (i, e)) (List.mem_map_of_mem me)) j (List.mem_range.mpr hj)
theorem zip_fst {α β γ : Type} (f : α → γ) : ∀ {l : List α} {m : List β}, m.length = l.length → (l.zip m).map (fun q => f q.1) = l.map f := by
  intro l
  induction l with
  | nil => intro m _; rfl
  | cons x l ih => intro m h; cases m with
    | nil => cases h
    | cons y m => exact congrArg (f x :: ·) (ih (Nat.succ.inj h))
theorem closed_at {st : Nat} (h4 : st < 4) {ps : List Nat} {ts : List (List Nat)} (hne : ps ≠ []) (h6 : ∀ p ∈ ps, p < 6) (hl : ps.length ≤ 9) (ht : ts.length = ps.length) (htl : ∀ t ∈ ts, t ∈ tails) :
    F3 "_law_closed" [.list ((ps.zip ts).map fun q => .str (lnOf st q.1 q.2).l)] = some (.list ((pileN ps [] []).map fun i => .str (ss (rmC st i)))) := by
  rw [F3_clo]
  generalize hits : (ps.zip ts).map (fun q => lnOf st q.1 q.2) = its
  have hk : its.map (·.k) = ps.map fun i => Int.ofNat (14 + st + i) := by rw [← hits, List.map_map]; exact zip_fst (fun i => Int.ofNat (14 + st + i)) ht
  have hz : (ps.zip ts).length = ps.length := by rw [List.length_zip, ht, Nat.min_self]
  have hil : its.length = ps.length := by rw [← hits, List.length_map, hz]
  have it : ∀ x ∈ its, ∃ i < 6, ∃ t ∈ tails, x = lnOf st i t := fun x m => by
    rw [← hits] at m
    obtain ⟨q, mq, rfl⟩ := List.mem_map.mp m
    exact ⟨q.1, h6 _ (List.of_mem_zip (a := q.1) (b := q.2) mq).1, q.2, htl _ (List.of_mem_zip (a := q.1) (b := q.2) mq).2, rfl⟩
  have rv : ∀ {α : Type} (f : Ln → α), (its.map f).reverse = its.reverse.map f := fun f => (List.map_reverse ..).symm
  have at_ : ∀ {β : Type} (g : Ln → β) t, t ∈ its.map (·.k) → ∃ i < 6, ∃ s ∈ tails, t = Int.ofNat (14 + st + i) ∧ lookI (its.map (·.k)).reverse (its.map g).reverse t = some (g (lnOf st i s)) := fun g t m => by
    rw [rv, rv]
    obtain ⟨x, mx, e1, e2⟩ := lookI_at (f := fun x : Ln => x.k) g (l := its.reverse) (t := t) (by rw [← rv]; exact List.mem_reverse.mpr m)
    obtain ⟨i, hi, s, ms, rfl⟩ := it x (List.mem_reverse.mp mx)
    exact ⟨i, hi, s, ms, e1.symm, e2⟩
  have un : ∀ {i j : Nat}, Int.ofNat (14 + st + i) = Int.ofNat (14 + st + j) → i = j := fun e => by simp only [Int.ofNat_eq_natCast] at e; omega
  have T : Tabs F2 M2 (its.map (·.k)) (its.map (·.k)).reverse (its.map (·.w)).reverse (its.map fun x => S.str x.rm).reverse (fun t => (lookI (its.map (·.k)).reverse (its.map (·.w)).reverse t).getD (WSd 0 ⟨#[]⟩)) (fun z => .str (ss (rmC st (z - (14 + st : Nat)).toNat))) fun t s => decide (t < s) := ⟨fun t m => by
      obtain ⟨i, hi, s, ms, e1, e2⟩ := at_ (·.w) t m
      rw [e2]; rfl, fun t m => by
      obtain ⟨i, hi, s, ms, e1, e2⟩ := at_ (fun x => S.str x.rm) t m
      rw [e2, e1, show (Int.ofNat (14 + st + i) - ((14 + st : Nat) : Int)).toNat = i by simp only [Int.ofNat_eq_natCast]; omega]; rfl, fun t m s m' => by
      obtain ⟨i, hi, a, ma, e1, e2⟩ := at_ (·.w) t m
      obtain ⟨j, hj, b, mb, e3, e4⟩ := at_ (·.w) s m'
      rw [e2, e4, e1, e3]
      refine (less_at hi hj _ _).trans (congrArg (fun x => some (V.t x)) ?_)
      rw [Bool.eq_iff_iff, decide_eq_true_iff]
      simp only [Int.ofNat_eq_natCast]
      exact ⟨fun h => by have := Nat.le_of_ble_eq_true h; omega, fun h => Nat.ble_eq_true_of_le (by omega)⟩, F2_eof⟩
  have r := closed_run (its := its) (fun q => by rw [q] at hil; exact hne (List.length_eq_zero_iff.mp hil.symm)) (fun x m => by obtain ⟨i, hi, t, mt, rfl⟩ := it x m; exact ln_ok h4 hi mt) (by omega) T
  rw [show (its.map fun x => S.str x.l) = (ps.zip ts).map fun q => .str (lnOf st q.1 q.2).l by rw [← hits, List.map_map]; rfl, hk] at r
  rw [r]
  refine congrArg (fun l => some (V.list l)) ?_
  exact pileW_pos (f := fun i => Int.ofNat (14 + st + i)) (g := fun i => S.str (ss (rmC st i))) (fun t s => by
      rw [Bool.eq_iff_iff, decide_eq_true_iff]
      simp only [Int.ofNat_eq_natCast]
      exact ⟨fun h => Nat.ble_eq_true_of_le (by omega), fun h => by have := Nat.le_of_ble_eq_true h; omega⟩) (fun s => beq_eq_false_iff_ne.mpr (by simp only [Int.ofNat_eq_natCast]; omega)) (fun t => by
      show S.str (ss (rmC st (Int.ofNat (14 + st + t) - ((14 + st : Nat) : Int)).toNat)) = _
      rw [show (Int.ofNat (14 + st + t) - ((14 + st : Nat) : Int)).toNat = t by simp only [Int.ofNat_eq_natCast]; omega]) ps [] []
theorem lawF {st n : Nat} (hst : (st, n) ∈ stn) : LawF F3 st n := by
  obtain ⟨h4, hn⟩ := stn_mem hst
  have r := List.all_eq_true.mp ris_len _ hst
  simp only [Bool.and_eq_true] at r
  exact ⟨fun i hi => (F3_lin [.i (Int.ofNat i), .s (ss [cd st i])]).trans (lin_at (p := (st, i)) (mem_sti h4 hi)), fun ps ts h1 _ h3 h4' h5 h6 => closed_at h4 h1 h3 h4' h5 h6, fun O h1 h2 => (F3_hal _).trans (hal_run (by have := Nat.le_of_ble_eq_true r.1.2; omega) 7 O (by omega) (by omega) h2), fun O h => once_at hst h, fun O h => twice_at hst h⟩
section
variable {prog : Program} {w : World} {H : Heap} {mg mb : Str → Option Value}
theorem law_ok (o : (cxOf prog w H mg mb).Ok) {ns : List Int} (hl : ns.length ≤ 9999) : CallOk (cxOf prog w H mg mb) 10 (.ref 161) [.list (ns.map .int)] (.t true) :=
  call_run o ⟨f3 o, fun f vs v h => (m2 o f vs v h).elim fun a q => ⟨a, q.1, q.2.up (by decide)⟩⟩ dLaw (by kernel_rfl) (law_run (fun st n => lawF) hl)
end


/-! the law is called -/
theorem ints_rel {vs : List Value} {ns : List Int} (h : IntsAre vs ns) : RelL (ns.map .int) vs := by
  induction h with
  | nil => rfl
  | cons i t _ ih => unfold RelL at ih ⊢; rw [List.map_cons, List.map_cons, List.map_cons, ih]; rfl
theorem well_list {P : Params} {h : Heap} {a : Addr} {ns : List Int} {vs : List Value} (x : Well P h (.ref a) (ofPy (PyData.list (ns.map PyData.int)))) (y : h.IsList a vs.toArray) : h.get? a = some (listO vs 0) := by
  obtain ⟨o, e1, _, n, e2⟩ := y
  obtain ⟨xs, ex⟩ : ∃ xs, ofPy (PyData.list (ns.map PyData.int)) = .list xs := ⟨_, rfl⟩
  rw [ex] at x
  cases x with
  | list e _ =>
    rw [e] at e1
    injection e1 with e1
    rw [← e1] at e2
    injection e2 with e2 _
    rw [e, e2]
theorem walk {q : Program} {loose : List Str} {XP : (Str → Option Value) → Heap → Prop} {d : DefRec} {kwd : List (Str × Expr)} (hn : d.name = "law") :
    WalkO q loose XP (kHook K asK asK_eq).says PySem.Challenge.rw_re0153_01.row.toRowW d kwd fun f vs => PySem.call f vs := by
  intro w s₀ s₁ mg mb G Y fa o pm cd doc dV kV ho hd hcd hD hmg hg args vals as hpre hlay hrd hwl hlo
  wrow_args hpre hlay hrd hwl hlo
  rename_i ns _ _ _ _ _ _ _ a vs _ hL _ w1 _ hI _ hlen _
  have X : (K w.params).In s₁.heap := kIn_of Y
  have T := topRead_of G.T
  have ok := cx_ok (prog := PySem.Challenge.rw_re0153_01.row.toRowW.prog) X T.g T.b T.nolimit T.builtins
  have hf : fa = 161 := by
    rw [hn, mg_of X T.g (show nsIn (K w.params) mainGlobals "law" = some (some (.ref 161)) by kernel_rfl)] at hmg
    injection hmg with hmg
    injection hmg with hmg
    exact hmg.symm
  subst hf
  refine law_ok ok (ns := ns) (by omega) callerA s₁ [] [.ref a] _ _ ⟨rfl, by decide, by decide⟩ (fun _ _ e => e) (fun _ m => nomatch m) (.cons ⟨a, vs, 0, rfl, ⟨well_list w1 hL, fun m => nomatch m⟩, ints_rel hI⟩ .nil) fun mv s' kp rv => ?_
  cases sca_bool rv
  obtain ⟨h', tk, rfl, kk⟩ := kp
  exact GoodW.toG ⟨.inl ⟨.bool true, .bool true, [], rfl, fun _ => rfl, .bool true, by kernel_rfl, fun _ => ⟨List.nodup_nil, fun _ m => nomatch m⟩⟩, kk, rfl, hg⟩

/-! the head: the program's twin is the program itself -/
noncomputable def head.tw7285296725754458798 : Program := PySem.Challenge.pw_re0153_01
theorem head.te7285296725754458798 : PySem.Challenge.pw_re0153_01 = head.tw7285296725754458798 := rfl
set_option Elab.async true in
set_option maxRecDepth 100000 in
set_option maxHeartbeats 8000000 in
theorem head : PySem.Challenge.rw_re0153_01.Holds := by
  w_on; o_law; o_head (kHook Mine.K Mine.asK Mine.asK_eq); (case hw => w_witness2); exact Mine.walk rfl
end Mine
theorem PySem.Challenge.cw_re0153_01_holds : PySem.Challenge.rw_re0153_01.Holds :=
  Mine.head
