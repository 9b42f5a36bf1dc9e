import PyProof.Rows.All
import Wide.All
import OpenK.AllK
import Wide.FinOn
import KE.KSortTup
import PySem.Challenge.RW_pg0205_03
set_option Elab.async false
set_option maxRecDepth 100000
section
set_option maxRecDepth 100000
namespace Ev
open PySem PySem.W PySem.Calls PyProof.Rows
theorem falseE {P : Prop} (h : false = true) : P := (Bool.false_ne_true h).elim
theorem noneE {α : Type} {a : α} {P : Prop} (h : none = some a) : P := nomatch h

/-! values of my own evaluator -/
inductive D where
  | none
  | bool (b : Bool)
  | int (i : Int)
  | flt (x : UInt64)
  | str (s : List Nat)
  | tup (xs : List D)
  | lst (xs : List D)
  | inst (as : List (Nat × D))
  | loc (l : Nat)
  deriving Inhabited

inductive MObj where
  | lst (xs : List D)
  | inst (as : List (Nat × D))
  deriving Inhabited

noncomputable abbrev Sto := List (Option MObj)
noncomputable abbrev PMap := Addr → Option Obj
/-- what is frozen: objects, and the floats' tokens with their bits -/
structure FM where
  o : PMap
  t : Tok → Option UInt64
structure PLe (F F' : FM) : Prop where
  o : ∀ a o, F.o a = some o → F'.o a = some o
  t : ∀ t x, F.t t = some x → F'.t t = some x
theorem PLe.rfl {F : FM} : PLe F F := ⟨fun _ _ h => h, fun _ _ h => h⟩
theorem PLe.trans {F G H : FM} (a : PLe F G) (b : PLe G H) : PLe F H := ⟨fun x o h => b.o x o (a.o x o h), fun x o h => b.t x o (a.t x o h)⟩

/-- attribute names of the one class, by number -/
noncomputable def attrName : Nat → Str
  | 0 => Str.ofString "raw"
  | 1 => Str.ofString "n"
  | 2 => Str.ofString "nt"
  | 3 => Str.ofString "norm"
  | _ => Str.ofString "is_simple"

mutual
inductive Rv (C : Addr) (F : FM) (ρ : List (List Addr)) : Value → D → Prop
  | none : Rv C F ρ .none .none
  | bool (b : Bool) : Rv C F ρ (.bool b) (.bool b)
  | int (i : Int) (t : Tok) : Rv C F ρ (.int i t) (.int i)
  | flt {x : UInt64} {t : Tok} (ht : F.t t = some x) : Rv C F ρ (.float x t) (.flt x)
  | str (xs : List Nat) (t : Tok) : Rv C F ρ (.str ⟨xs.toArray⟩ t) (.str xs)
  | tup {a : Addr} {o : Obj} {vs : List Value} {n : Nat} {xs : List D} (ho : F.o a = some o) (hc : o.cls = .type "tuple") (hd : o.data = .seq vs.toArray n) (hs : Rvs C F ρ vs xs) : Rv C F ρ (.ref a) (.tup xs)
  | lst {a : Addr} {o : Obj} {vs : List Value} {n : Nat} {xs : List D} (ho : F.o a = some o) (hc : o.cls = .type "list") (hd : o.data = .seq vs.toArray n) (hs : Rvs C F ρ vs xs) : Rv C F ρ (.ref a) (.lst xs)
  | inst {a d : Addr} {es : List DictEntry} {n : Nat} {as : List (Nat × D)} (ho : F.o a = some (instObj C d)) (hd : F.o d = some (dictOf es n)) (hs : Ra C F ρ es as) : Rv C F ρ (.ref a) (.inst as)
  | loc {a : Addr} {l : Nat} (hl : ∃ r, ρ[l]? = some (a :: r)) : Rv C F ρ (.ref a) (.loc l)
inductive Rvs (C : Addr) (F : FM) (ρ : List (List Addr)) : List Value → List D → Prop
  | nil : Rvs C F ρ [] []
  | cons {v : Value} {X : D} {vs : List Value} {xs : List D} (h : Rv C F ρ v X) (hs : Rvs C F ρ vs xs) : Rvs C F ρ (v :: vs) (X :: xs)
inductive Ra (C : Addr) (F : FM) (ρ : List (List Addr)) : List DictEntry → List (Nat × D) → Prop
  | nil : Ra C F ρ [] []
  | cons {h : Int} {t : Tok} {v : Value} {k : Nat} {X : D} {es : List DictEntry} {as : List (Nat × D)} (hk : k < 5) (hv : Rv C F ρ v X) (hs : Ra C F ρ es as) : Ra C F ρ (⟨h, .str (attrName k) t, v⟩ :: es) ((k, X) :: as)
end

theorem pre_get {ρ ρ' : List (List Addr)} (h : ρ <+: ρ') {l : Nat} {r : List Addr} (e : ρ[l]? = some r) : ρ'[l]? = some r := by
  obtain ⟨t, rfl⟩ := h
  rw [List.getElem?_append_left (List.getElem?_eq_some_iff.mp e).1]; exact e
section
variable {C : Addr} {F F' : FM} {ρ ρ' : List (List Addr)}
theorem Rv.mono (hF : PLe F F') (hρ : ρ <+: ρ') {v : Value} {x : D} (h : Rv C F ρ v x) : Rv C F' ρ' v x :=
  Rv.rec (motive_1 := fun v x _ => Rv C F' ρ' v x) (motive_2 := fun v x _ => Rvs C F' ρ' v x) (motive_3 := fun v x _ => Ra C F' ρ' v x)
    .none .bool .int (fun ht => .flt (hF.t _ _ ht)) .str (fun ho hc hd _ r => .tup (hF.o _ _ ho) hc hd r) (fun ho hc hd _ r => .lst (hF.o _ _ ho) hc hd r) (fun ho hd _ r => .inst (hF.o _ _ ho) (hF.o _ _ hd) r)
    (fun ⟨r, hl⟩ => .loc ⟨r, pre_get hρ hl⟩) .nil (fun _ _ r q => .cons r q) .nil (fun hk _ _ r q => .cons hk r q) h
theorem Rvs.mono (hF : PLe F F') (hρ : ρ <+: ρ') {v : List Value} {x : List D} (h : Rvs C F ρ v x) : Rvs C F' ρ' v x :=
  Rvs.rec (motive_1 := fun v x _ => Rv C F' ρ' v x) (motive_2 := fun v x _ => Rvs C F' ρ' v x) (motive_3 := fun v x _ => Ra C F' ρ' v x)
    .none .bool .int (fun ht => .flt (hF.t _ _ ht)) .str (fun ho hc hd _ r => .tup (hF.o _ _ ho) hc hd r) (fun ho hc hd _ r => .lst (hF.o _ _ ho) hc hd r) (fun ho hd _ r => .inst (hF.o _ _ ho) (hF.o _ _ hd) r)
    (fun ⟨r, hl⟩ => .loc ⟨r, pre_get hρ hl⟩) .nil (fun _ _ r q => .cons r q) .nil (fun hk _ _ r q => .cons hk r q) h
theorem Ra.mono (hF : PLe F F') (hρ : ρ <+: ρ') {v : List DictEntry} {x : List (Nat × D)} (h : Ra C F ρ v x) : Ra C F' ρ' v x :=
  Ra.rec (motive_1 := fun v x _ => Rv C F' ρ' v x) (motive_2 := fun v x _ => Rvs C F' ρ' v x) (motive_3 := fun v x _ => Ra C F' ρ' v x)
    .none .bool .int (fun ht => .flt (hF.t _ _ ht)) .str (fun ho hc hd _ r => .tup (hF.o _ _ ho) hc hd r) (fun ho hc hd _ r => .lst (hF.o _ _ ho) hc hd r) (fun ho hd _ r => .inst (hF.o _ _ ho) (hF.o _ _ hd) r)
    (fun ⟨r, hl⟩ => .loc ⟨r, pre_get hρ hl⟩) .nil (fun _ _ r q => .cons r q) .nil (fun hk _ _ r q => .cons hk r q) h

/-! what stands behind a value of a kind -/
noncomputable def RvS (C : Addr) (F : FM) (ρ : List (List Addr)) (v : Value) : D → Prop
  | .none => v = .none
  | .bool b => v = .bool b
  | .int i => ∃ t, v = .int i t
  | .flt x => ∃ t, v = .float x t ∧ F.t t = some x
  | .str xs => ∃ t, v = .str ⟨xs.toArray⟩ t
  | .tup xs => ∃ a o vs n, v = .ref a ∧ F.o a = some o ∧ o.cls = .type "tuple" ∧ o.data = .seq (List.toArray vs) n ∧ Rvs C F ρ vs xs
  | .lst xs => ∃ a o vs n, v = .ref a ∧ F.o a = some o ∧ o.cls = .type "list" ∧ o.data = .seq (List.toArray vs) n ∧ Rvs C F ρ vs xs
  | .inst as => ∃ a d es n, v = .ref a ∧ F.o a = some (instObj C d) ∧ F.o d = some (dictOf es n) ∧ Ra C F ρ es as
  | .loc l => ∃ a r, v = .ref a ∧ ρ[l]? = some (a :: r)
theorem Rv.inv {v : Value} {x : D} (h : Rv C F ρ v x) : RvS C F ρ v x := by
  cases h with
  | none => exact rfl
  | bool b => exact rfl
  | int i t => exact ⟨t, rfl⟩
  | flt ht => exact ⟨_, rfl, ht⟩
  | str xs t => exact ⟨t, rfl⟩
  | tup ho hc hd hs => exact ⟨_, _, _, _, rfl, ho, hc, hd, hs⟩
  | lst ho hc hd hs => exact ⟨_, _, _, _, rfl, ho, hc, hd, hs⟩
  | inst ho hd hs => exact ⟨_, _, _, _, rfl, ho, hd, hs⟩
  | loc hl => exact ⟨_, _, rfl, hl.choose_spec⟩
noncomputable def RvsS (C : Addr) (F : FM) (ρ : List (List Addr)) (vs : List Value) : List D → Prop
  | [] => vs = []
  | x :: xs => ∃ v us, vs = v :: us ∧ Rv C F ρ v x ∧ Rvs C F ρ us xs
theorem Rvs.inv {vs : List Value} {xs : List D} (h : Rvs C F ρ vs xs) : RvsS C F ρ vs xs := by
  cases h with
  | nil => exact rfl
  | cons h hs => exact ⟨_, _, rfl, h, hs⟩
noncomputable def RaS (C : Addr) (F : FM) (ρ : List (List Addr)) (es : List DictEntry) : List (Nat × D) → Prop
  | [] => es = []
  | kx :: as => ∃ h t v fs, es = ⟨h, .str (attrName kx.1) t, v⟩ :: fs ∧ kx.1 < 5 ∧ Rv C F ρ v kx.2 ∧ Ra C F ρ fs as
theorem Ra.inv {es : List DictEntry} {as : List (Nat × D)} (h : Ra C F ρ es as) : RaS C F ρ es as := by
  cases h with
  | nil => exact rfl
  | cons hk hv hs => exact ⟨_, _, _, _, rfl, hk, hv, hs⟩
end

/- no loc inside -/
mutual
noncomputable def D.pure : D → Bool
  | .loc _ => false
  | .tup xs => D.pures xs
  | .lst xs => D.pures xs
  | .inst as => D.purea as
  | _ => true
noncomputable def D.pures : List D → Bool
  | [] => true
  | x :: xs => D.pure x && D.pures xs
noncomputable def D.purea : List (Nat × D) → Bool
  | [] => true
  | (_, x) :: xs => D.pure x && D.purea xs
end
section
variable {C : Addr} {F : FM} {ρ ρ' : List (List Addr)}
theorem and2 {a b : Bool} (h : (a && b) = true) : a = true ∧ b = true := Bool.and_eq_true_iff.mp h
theorem Rv.toPure {v : Value} {x : D} (h : Rv C F ρ v x) : x.pure = true → Rv C F ρ' v x :=
  Rv.rec (motive_1 := fun v x _ => x.pure = true → Rv C F ρ' v x) (motive_2 := fun v x _ => D.pures x = true → Rvs C F ρ' v x) (motive_3 := fun v x _ => D.purea x = true → Ra C F ρ' v x)
    (fun _ => .none) (fun b _ => .bool b) (fun i t _ => .int i t) (fun ht _ => .flt ht) (fun xs t _ => .str xs t) (fun ho hc hd _ r e => .tup ho hc hd (r e)) (fun ho hc hd _ r e => .lst ho hc hd (r e)) (fun ho hd _ r e => .inst ho hd (r e))
    (fun _ e => falseE e) (fun _ => .nil) (fun _ _ r q e => .cons (r (and2 e).1) (q (and2 e).2)) (fun _ => .nil) (fun hk _ _ r q e => .cons hk (r (and2 e).1) (q (and2 e).2)) h
theorem Rvs.toPure {v : List Value} {x : List D} (h : Rvs C F ρ v x) : D.pures x = true → Rvs C F ρ' v x :=
  Rvs.rec (motive_1 := fun v x _ => x.pure = true → Rv C F ρ' v x) (motive_2 := fun v x _ => D.pures x = true → Rvs C F ρ' v x) (motive_3 := fun v x _ => D.purea x = true → Ra C F ρ' v x)
    (fun _ => .none) (fun b _ => .bool b) (fun i t _ => .int i t) (fun ht _ => .flt ht) (fun xs t _ => .str xs t) (fun ho hc hd _ r e => .tup ho hc hd (r e)) (fun ho hc hd _ r e => .lst ho hc hd (r e)) (fun ho hd _ r e => .inst ho hd (r e))
    (fun _ e => falseE e) (fun _ => .nil) (fun _ _ r q e => .cons (r (and2 e).1) (q (and2 e).2)) (fun _ => .nil) (fun hk _ _ r q e => .cons hk (r (and2 e).1) (q (and2 e).2)) h
theorem Ra.toPure {v : List DictEntry} {x : List (Nat × D)} (h : Ra C F ρ v x) : D.purea x = true → Ra C F ρ' v x :=
  Ra.rec (motive_1 := fun v x _ => x.pure = true → Rv C F ρ' v x) (motive_2 := fun v x _ => D.pures x = true → Rvs C F ρ' v x) (motive_3 := fun v x _ => D.purea x = true → Ra C F ρ' v x)
    (fun _ => .none) (fun b _ => .bool b) (fun i t _ => .int i t) (fun ht _ => .flt ht) (fun xs t _ => .str xs t) (fun ho hc hd _ r e => .tup ho hc hd (r e)) (fun ho hc hd _ r e => .lst ho hc hd (r e)) (fun ho hd _ r e => .inst ho hd (r e))
    (fun _ e => falseE e) (fun _ => .nil) (fun _ _ r q e => .cons (r (and2 e).1) (q (and2 e).2)) (fun _ => .nil) (fun hk _ _ r q e => .cons hk (r (and2 e).1) (q (and2 e).2)) h
/-- an induction over the lists alone -/
theorem Rvs.ind {P : List Value → List D → Prop} (h0 : P [] []) (h1 : ∀ {v X vs xs}, Rv C F ρ v X → Rvs C F ρ vs xs → P vs xs → P (v :: vs) (X :: xs)) : ∀ {vs : List Value} {xs : List D}, Rvs C F ρ vs xs → P vs xs
  | vs, [], h => by obtain rfl := (h.inv : vs = []); exact h0
  | vs, x :: xs, h => by obtain ⟨v, us, rfl, h2, h3⟩ := (h.inv : ∃ v us, vs = v :: us ∧ Rv C F ρ v x ∧ Rvs C F ρ us xs); exact h1 h2 h3 (Rvs.ind h0 h1 h3)
theorem Rvs.length {vs : List Value} {xs : List D} (h : Rvs C F ρ vs xs) : vs.length = xs.length := Rvs.ind (P := fun vs xs => vs.length = xs.length) rfl (fun _ _ ih => congrArg (· + 1) ih) h
theorem Rvs.get {vs : List Value} {xs : List D} {i : Nat} {x : D} (h : Rvs C F ρ vs xs) : xs[i]? = some x → ∃ v, vs[i]? = some v ∧ Rv C F ρ v x :=
  Rvs.ind (P := fun vs xs => ∀ i, xs[i]? = some x → ∃ v, vs[i]? = some v ∧ Rv C F ρ v x) (fun i e => by cases i <;> (first | exact noneE e | exact falseE e | exact nomatch e)) (fun h _ ih i e => match i, e with
    | 0, e => ⟨_, rfl, (Option.some.inj e) ▸ h⟩
    | i + 1, e => ih i e) h i
theorem Rvs.append {vs ws : List Value} {xs ys : List D} (h : Rvs C F ρ vs xs) (h' : Rvs C F ρ ws ys) : Rvs C F ρ (vs ++ ws) (xs ++ ys) := Rvs.ind (P := fun vs xs => Rvs C F ρ (vs ++ ws) (xs ++ ys)) h' (fun h _ ih => .cons h ih) h
theorem Rvs.set {vs : List Value} {xs : List D} {v : Value} {x : D} (i : Nat) (h : Rvs C F ρ vs xs) (hv : Rv C F ρ v x) : Rvs C F ρ (vs.set i v) (xs.set i x) :=
  Rvs.ind (P := fun vs xs => ∀ i, Rvs C F ρ (vs.set i v) (xs.set i x)) (fun _ => .nil) (fun h hs ih i => match i with
    | 0 => .cons hv hs
    | i + 1 => .cons h (ih i)) h i
theorem Rvs.take {vs : List Value} {xs : List D} (i : Nat) (h : Rvs C F ρ vs xs) : Rvs C F ρ (vs.take i) (xs.take i) :=
  Rvs.ind (P := fun vs xs => ∀ i, Rvs C F ρ (vs.take i) (xs.take i)) (fun i => match i with | 0 => .nil | _ + 1 => .nil) (fun h hs ih i => match i with
    | 0 => .nil
    | i + 1 => .cons h (ih i)) h i
theorem Rvs.drop {vs : List Value} {xs : List D} (i : Nat) (h : Rvs C F ρ vs xs) : Rvs C F ρ (vs.drop i) (xs.drop i) :=
  Rvs.ind (P := fun vs xs => ∀ i, Rvs C F ρ (vs.drop i) (xs.drop i)) (fun i => match i with | 0 => .nil | _ + 1 => .nil) (fun h hs ih i => match i with
    | 0 => .cons h hs
    | i + 1 => ih i) h i
end

/-! small steps backwards -/
theorem bindE {α β : Type} {o : Option α} {f : α → Option β} {b : β} {P : Prop} (h : o.bind f = some b) (k : ∀ a, o = some a → f a = some b → P) : P := by
  cases o with
  | none => (first | exact noneE h | exact falseE h | exact nomatch h)
  | some a => exact k a rfl h
theorem mapE {α β : Type} {o : Option α} {f : α → β} {b : β} {P : Prop} (h : o.map f = some b) (k : ∀ a, o = some a → f a = b → P) : P := by
  cases o with
  | none => (first | exact noneE h | exact falseE h | exact nomatch h)
  | some a => exact k a rfl (Option.some.inj h)
theorem iteT {α : Type} {p : Prop} [Decidable p] {a : Option α} {r : α} (h : (if p then a else none) = some r) : p ∧ a = some r := by
  by_cases q : p
  · rw [if_pos q] at h; exact ⟨q, h⟩
  · rw [if_neg q] at h; (first | exact noneE h | exact falseE h | exact nomatch h)
theorem iteF {α : Type} {p : Prop} [Decidable p] {a : Option α} {r : α} (h : (if p then none else a) = some r) : ¬ p ∧ a = some r := by
  by_cases q : p
  · rw [if_pos q] at h; (first | exact noneE h | exact falseE h | exact nomatch h)
  · rw [if_neg q] at h; exact ⟨q, h⟩
theorem pairI {α β : Type} {a a' : α} {b b' : β} (h : some (a, b) = some (a', b')) : a = a' ∧ b = b' := ⟨congrArg Prod.fst (Option.some.inj h), congrArg Prod.snd (Option.some.inj h)⟩

/-! ghost state -/
inductive Tag where
  | fr (i : Nat)
  | loc (l : Nat)
noncomputable def adrs (fa : List (Option Addr)) (ρ : List (List Addr)) : Tag → List Addr
  | .fr i => (fa[i]?.join).toList
  | .loc l => (ρ[l]?).getD []
noncomputable def liveT (σ : Sto) : Tag → Prop
  | .fr _ => True
  | .loc l => ∃ m, σ[l]? = some (some m)

end Ev
end
section
set_option maxRecDepth 100000
set_option autoImplicit false
namespace Ev
open PySem PySem.W PySem.Calls PyProof.Rows

structure Cx where
  prog : Program
  w : World
  K : Frag
  B : Heap
  S0 : Shared
  C : Addr
  pos : Bool

inductive ObjR (C : Addr) (F : FM) (ρ : List (List Addr)) (h : Heap) : List Addr → MObj → Prop
  | lst {a : Addr} {vs : List Value} {n : Nat} {xs : List D} (ho : h.get? a = some { cls := .type "list", data := .seq vs.toArray n }) (hs : Rvs C F ρ vs xs) : ObjR C F ρ h [a] (.lst xs)
  | inst {a d : Addr} {es : List DictEntry} {n : Nat} {as : List (Nat × D)} (ho : h.get? a = some (instObj C d)) (hd : h.get? d = some (dictOf es n)) (hs : Ra C F ρ es as) : ObjR C F ρ h [a, d] (.inst as)
theorem ObjR.mono {C : Addr} {F F' : FM} {ρ ρ' : List (List Addr)} {h h' : Heap} {r : List Addr} {m : MObj} (x : ObjR C F ρ h r m) (hF : PLe F F') (hρ : ρ <+: ρ') (hh : ∀ a ∈ r, ∀ o, h.get? a = some o → h'.get? a = some o) : ObjR C F' ρ' h' r m := by
  cases x with
  | lst ho hs => exact .lst (hh _ (by simp) _ ho) (hs.mono hF hρ)
  | inst ho hd hs => exact .inst (hh _ (by simp) _ ho) (hh _ (by simp) _ hd) (hs.mono hF hρ)

structure G (c : Cx) (F : FM) (X : PMap) (fa : List (Option Addr)) (ρ : List (List Addr)) (σ : Sto) (s : Shared) : Prop where
  f : ∀ a o, F.o a = some o → s.heap.get? a = some o
  x : ∀ a o, X a = some o → s.heap.get? a = some o
  fx : ∀ a o, F.o a = some o → X a = none
  base : ∀ a o, c.B.get? a = some o → F.o a = some o
  apart : ∀ t t' a, liveT σ t → liveT σ t' → a ∈ adrs fa ρ t → a ∈ adrs fa ρ t' → t = t'
  own : ∀ t a, liveT σ t → a ∈ adrs fa ρ t → F.o a = none ∧ X a = none ∧ ∃ o, s.heap.get? a = some o
  objs : ∀ (l : Nat) (m : MObj), σ[l]? = some (some m) → ∃ r, ρ[l]? = some r ∧ ObjR c.C F ρ s.heap r m
  len : ρ.length = σ.length
  gens : s.gens = c.S0.gens
  tpos : c.pos = true → 0 < s.toks
  ft : ∀ t x, F.t t = some x → 0 < t ∧ t < s.toks
  os : s.os = c.S0.os

section
variable {c : Cx} {F F' : FM} {X X' : PMap} {fa fa' : List (Option Addr)} {ρ ρ' : List (List Addr)} {σ σ' : Sto} {s s' : Shared}

theorem adrs_loc {l : Nat} {r : List Addr} (h : ρ[l]? = some r) : adrs fa ρ (.loc l) = r := by simp [adrs, h]

theorem G.to (g : G c F X fa ρ σ s) (h : ∀ b o, (F.o b = some o ∨ X b = some o ∨ ∃ t, liveT σ t ∧ b ∈ adrs fa ρ t) → s.heap.get? b = some o → s'.heap.get? b = some o)
    (hg : s'.gens = s.gens) (ho : s'.os = s.os) (ht : s.toks ≤ s'.toks) : G c F X fa ρ σ s' where
  tpos := fun h => Nat.lt_of_lt_of_le (g.tpos h) ht
  ft := fun t x e => ⟨(g.ft t x e).1, Nat.lt_of_lt_of_le (g.ft t x e).2 ht⟩
  f := fun a o e => h a o (.inl e) (g.f a o e)
  x := fun a o e => h a o (.inr (.inl e)) (g.x a o e)
  fx := g.fx
  base := g.base
  apart := g.apart
  own := fun t a l m => let ⟨h1, h2, o, h3⟩ := g.own t a l m; ⟨h1, h2, o, h a o (.inr (.inr ⟨t, l, m⟩)) h3⟩
  objs := fun l m e => let ⟨r, h1, h2⟩ := g.objs l m e; ⟨r, h1, h2.mono PLe.rfl (List.prefix_refl _) fun a ha o ho => h a o (.inr (.inr ⟨.loc l, ⟨m, e⟩, by rw [adrs_loc h1]; exact ha⟩)) ho⟩
  len := g.len
  gens := hg.trans g.gens
  os := ho.trans g.os

theorem G.keeps (g : G c F X fa ρ σ s) (h : ∀ b o, s.heap.get? b = some o → s'.heap.get? b = some o) (hg : s'.gens = s.gens) (ho : s'.os = s.os) (ht : s.toks ≤ s'.toks) : G c F X fa ρ σ s' :=
  g.to (fun b o _ e => h b o e) hg ho ht

theorem G.fresh (g : G c F X fa ρ σ s) {a : Addr} (h : s.heap.get? a = none) : F.o a = none ∧ X a = none ∧ ∀ t, liveT σ t → a ∉ adrs fa ρ t := by
  refine ⟨?_, ?_, fun t l m => ?_⟩
  · cases e : F.o a with | none => rfl | some o => rw [g.f a o e] at h; cases h
  · cases e : X a with | none => rfl | some o => rw [g.x a o e] at h; cases h
  · obtain ⟨_, _, o, e⟩ := g.own t a l m; rw [e] at h; cases h

theorem none_at_size (h : Heap) : h.get? h.objs.size = none := by
  cases e : h.get? h.objs.size with
  | none => rfl
  | some o => exact absurd (Heap.lt_size e) (Nat.lt_irrefl _)

noncomputable def upd (F : PMap) (a : Addr) (o : Obj) : PMap := fun b => if b = a then some o else F b
theorem upd_self {F : PMap} {a : Addr} {o : Obj} : upd F a o a = some o := by simp [upd]
theorem upd_ne {F : PMap} {a b : Addr} {o : Obj} (h : b ≠ a) : upd F a o b = F b := by simp [upd, h]
theorem upd_get {F : PMap} {a : Addr} {o : Obj} (h : F a = none) : ∀ b o', F b = some o' → upd F a o b = some o' := fun b o' e => by
  unfold upd; split
  · rename_i q; subst q; rw [h] at e; cases e
  · exact e
noncomputable def updF (F : FM) (a : Addr) (o : Obj) : FM := { F with o := upd F.o a o }
theorem upd_le {F : FM} {a : Addr} {o : Obj} (h : F.o a = none) : PLe F (updF F a o) := ⟨upd_get h, fun _ _ e => e⟩

/-- an address that is nobody's is frozen -/
theorem G.freezeAt (g : G c F X fa ρ σ s) {a : Addr} {o : Obj} (ho : s.heap.get? a = some o) (hF : F.o a = none) (hX : X a = none) (hO : ∀ t, liveT σ t → a ∉ adrs fa ρ t) : G c (updF F a o) X fa ρ σ s where
  tpos := g.tpos
  ft := g.ft
  f := fun b o' e => by
    simp only [updF] at e; unfold upd at e; split at e
    · rename_i q; cases e; rw [q]; exact ho
    · exact g.f b o' e
  x := g.x
  fx := fun b o' e => by
    simp only [updF] at e; unfold upd at e; split at e
    · rename_i q; rw [q]; exact hX
    · exact g.fx b o' e
  base := fun b o' e => (upd_le hF).o b o' (g.base b o' e)
  apart := g.apart
  own := fun t b l m => by
    obtain ⟨h1, h2, h3⟩ := g.own t b l m
    refine ⟨?_, h2, h3⟩
    show upd F.o a o b = none
    rw [upd_ne]; exact h1
    intro e; exact hO t l (e ▸ m)
  objs := fun l m e => let ⟨r, h1, h2⟩ := g.objs l m e; ⟨r, h1, h2.mono (upd_le hF) (List.prefix_refl _) fun _ _ _ h => h⟩
  len := g.len
  gens := g.gens
  os := g.os

theorem G.push (g : G c F X fa ρ σ s) (o : Obj) : G c F X fa ρ σ { s with heap := s.heap.push o } := g.keeps (fun _ _ e => Heap.get?_push_of_some _ e) rfl rfl (Nat.le_refl _)
theorem G.push_frozen (g : G c F X fa ρ σ s) (o : Obj) (hf : o.isFreed = false := by rfl) : G c (updF F s.heap.objs.size o) X fa ρ σ { s with heap := s.heap.push o } := by
  obtain ⟨h1, h2, h3⟩ := g.fresh (none_at_size s.heap)
  exact (g.push o).freezeAt (Heap.get?_push_size _ hf) h1 h2 h3

/-- a new live list -/
theorem G.newLoc (g : G c F X fa ρ σ s) {r : List Addr} {m : MObj} (hr : ∀ a ∈ r, F.o a = none ∧ X a = none ∧ (∀ t, liveT σ t → a ∉ adrs fa ρ t) ∧ ∃ o, s.heap.get? a = some o) (hm : ObjR c.C F (ρ ++ [r]) s.heap r m) :
    G c F X fa (ρ ++ [r]) (σ ++ [some m]) s := by
  have hlen := g.len
  have old : ∀ t, liveT (σ ++ [some m]) t → (liveT σ t ∧ adrs fa (ρ ++ [r]) t = adrs fa ρ t) ∨ (t = .loc σ.length ∧ adrs fa (ρ ++ [r]) t = r) := by
    intro t ht
    cases t with
    | fr i => exact .inl ⟨trivial, rfl⟩
    | loc l =>
      obtain ⟨m', e⟩ := ht
      rcases Nat.lt_trichotomy l σ.length with h | h | h
      · left
        rw [List.getElem?_append_left h] at e
        refine ⟨⟨m', e⟩, ?_⟩
        simp only [adrs]; rw [List.getElem?_append_left (by omega)]
      · subst h; right
        refine ⟨rfl, ?_⟩
        simp only [adrs]; rw [List.getElem?_append_right (by omega)]; simp [hlen]
      · rw [List.getElem?_eq_none (by simp; omega)] at e; cases e
  refine { f := g.f, x := g.x, fx := g.fx, base := g.base, apart := ?_, own := ?_, objs := ?_, len := by simp [hlen], gens := g.gens, os := g.os, tpos := g.tpos, ft := g.ft }
  · intro t t' a h h' m1 m2
    rcases old t h with ⟨l1, e1⟩ | ⟨q1, e1⟩ <;> rcases old t' h' with ⟨l2, e2⟩ | ⟨q2, e2⟩ <;> rw [e1] at m1 <;> rw [e2] at m2
    · exact g.apart t t' a l1 l2 m1 m2
    · exact absurd m1 ((hr a m2).2.2.1 t l1)
    · exact absurd m2 ((hr a m1).2.2.1 t' l2)
    · rw [q1, q2]
  · intro t a h m1
    rcases old t h with ⟨l1, e1⟩ | ⟨rfl, e1⟩ <;> rw [e1] at m1
    · exact g.own t a l1 m1
    · exact ⟨(hr a m1).1, (hr a m1).2.1, (hr a m1).2.2.2⟩
  · intro l m' e
    rcases Nat.lt_trichotomy l σ.length with h | h | h
    · rw [List.getElem?_append_left h] at e
      obtain ⟨r', h1, h2⟩ := g.objs l m' e
      exact ⟨r', by rw [List.getElem?_append_left (by omega)]; exact h1, h2.mono PLe.rfl (List.prefix_append _ _) fun _ _ _ h => h⟩
    · subst h
      rw [List.getElem?_append_right (by omega)] at e
      simp at e; subst e
      exact ⟨r, by rw [List.getElem?_append_right (by omega)]; simp [hlen], hm⟩
    · rw [List.getElem?_eq_none (by simp; omega)] at e; cases e

theorem G.push_list (g : G c F X fa ρ σ s) {vs : List Value} {xs : List D} (hs : Rvs c.C F ρ vs xs) (n : Nat) :
    G c F X fa (ρ ++ [[s.heap.objs.size]]) (σ ++ [some (.lst xs)]) { s with heap := s.heap.push { cls := .type "list", data := .seq vs.toArray n } } := by
  obtain ⟨h1, h2, h3⟩ := g.fresh (none_at_size s.heap)
  have hg := Heap.get?_push_size s.heap (o := { cls := .type "list", data := .seq vs.toArray n }) rfl
  refine (g.push _).newLoc (fun a ha => ?_) ?_
  · simp at ha; subst ha; exact ⟨h1, h2, h3, _, hg⟩
  · exact .lst hg (hs.mono PLe.rfl (List.prefix_append _ _))

/-- a live object is turned -/
theorem G.turn (g : G c F X fa ρ σ s) {l : Nat} {m m' : MObj} {r : List Addr} {h' : Heap} {tk : Nat} (hl : σ[l]? = some (some m)) (hr : ρ[l]? = some r)
    (hk : ∀ b o, b ∉ r → s.heap.get? b = some o → h'.get? b = some o) (hm : ObjR c.C F ρ h' r m') (ha : ∀ a ∈ r, ∃ o, h'.get? a = some o) (ht : s.toks ≤ tk) : G c F X fa ρ (σ.set l (some m')) { s with heap := h', toks := tk } := by
  have hlt : l < σ.length := (List.getElem?_eq_some_iff.mp hl).1
  have lv : ∀ t, liveT (σ.set l (some m')) t → liveT σ t := by
    intro t ht
    cases t with
    | fr i => trivial
    | loc k =>
      obtain ⟨q, e⟩ := ht
      by_cases hkl : k = l
      · subst hkl; exact ⟨m, hl⟩
      · rw [List.getElem?_set_ne (Ne.symm hkl)] at e; exact ⟨q, e⟩
  have hown : ∀ a ∈ r, F.o a = none ∧ X a = none := fun a h => let q := g.own (.loc l) a ⟨m, hl⟩ (by rw [adrs_loc hr]; exact h); ⟨q.1, q.2.1⟩
  refine { f := fun a o e => hk a o (fun h => by rw [(hown a h).1] at e; cases e) (g.f a o e), x := fun a o e => hk a o (fun h => by rw [(hown a h).2] at e; cases e) (g.x a o e), fx := g.fx, base := g.base,
           apart := fun t t' a h h' => g.apart t t' a (lv t h) (lv t' h'), own := ?_, objs := ?_, len := by simpa using g.len, gens := g.gens, os := g.os,
           tpos := fun h => Nat.lt_of_lt_of_le (g.tpos h) ht, ft := fun t x e => ⟨(g.ft t x e).1, Nat.lt_of_lt_of_le (g.ft t x e).2 ht⟩ }
  · intro t a h m1
    obtain ⟨q1, q2, o, q3⟩ := g.own t a (lv t h) m1
    refine ⟨q1, q2, ?_⟩
    by_cases hi : a ∈ r
    · exact ha a hi
    · exact ⟨o, hk a o hi q3⟩
  · intro k q e
    by_cases hkl : k = l
    · subst hkl
      rw [List.getElem?_set_self hlt] at e
      cases e
      exact ⟨r, hr, hm⟩
    · rw [List.getElem?_set_ne (Ne.symm hkl)] at e
      obtain ⟨r', h1, h2⟩ := g.objs k q e
      refine ⟨r', h1, h2.mono PLe.rfl (List.prefix_refl _) fun a ha' o ho => hk a o (fun hi => ?_) ho⟩
      have := g.apart (.loc l) (.loc k) a ⟨m, hl⟩ ⟨q, e⟩ (by rw [adrs_loc hr]; exact hi) (by rw [adrs_loc h1]; exact ha')
      exact hkl (by cases this; rfl)

theorem liveT_setNone {l : Nat} {t : Tag} (h : liveT (σ.set l none) t) : liveT σ t ∧ t ≠ .loc l := by
  cases t with
  | fr i => exact ⟨trivial, fun e => by cases e⟩
  | loc k =>
    obtain ⟨q, e⟩ := h
    by_cases hkl : k = l
    · subst hkl
      by_cases hlt : k < σ.length
      · rw [List.getElem?_set_self hlt] at e; cases e
      · rw [List.getElem?_eq_none (by simp; omega)] at e; cases e
    · rw [List.getElem?_set_ne (Ne.symm hkl)] at e
      exact ⟨⟨q, e⟩, fun x => hkl (by cases x; rfl)⟩

theorem G.drop (g : G c F X fa ρ σ s) (l : Nat) : G c F X fa ρ (σ.set l none) s where
  f := g.f
  x := g.x
  fx := g.fx
  base := g.base
  apart := fun t t' a h h' => g.apart t t' a (liveT_setNone h).1 (liveT_setNone h').1
  own := fun t a h => g.own t a (liveT_setNone h).1
  objs := fun k q e => by
    by_cases hkl : k = l
    · subst hkl
      by_cases hlt : k < σ.length
      · rw [List.getElem?_set_self hlt] at e; cases e
      · rw [List.getElem?_eq_none (by simp; omega)] at e; cases e
    · rw [List.getElem?_set_ne (Ne.symm hkl)] at e; exact g.objs k q e
  len := by simpa using g.len
  gens := g.gens
  os := g.os
  tpos := g.tpos
  ft := g.ft

noncomputable def MObj.toD : MObj → D
  | .lst xs => .lst xs
  | .inst as => .inst as

theorem G.freeze (g : G c F X fa ρ σ s) {l : Nat} {m : MObj} (hl : σ[l]? = some (some m)) {v : Value} (hv : Rv c.C F ρ v (.loc l)) :
    ∃ F', PLe F F' ∧ G c F' X fa ρ (σ.set l none) s ∧ Rv c.C F' ρ v m.toD := by
  obtain ⟨r, hr, ho⟩ := g.objs l m hl
  have hO : ∀ a ∈ r, ∀ t, liveT (σ.set l none) t → a ∉ adrs fa ρ t := fun a ha t ht hm => by
    have q := liveT_setNone ht
    exact q.2 (g.apart t (.loc l) a q.1 ⟨m, hl⟩ hm (by rw [adrs_loc hr]; exact ha))
  have hw : ∀ a ∈ r, F.o a = none ∧ X a = none ∧ _ := fun a ha => g.own (.loc l) a ⟨m, hl⟩ (by rw [adrs_loc hr]; exact ha)
  cases hv with
  | @loc b _ hl' =>
    obtain ⟨r', hl'⟩ := hl'
    rw [hr] at hl'
    cases ho with
    | @lst a vs n xs h1 hs =>
      cases hl'
      have hle := upd_le (o := { cls := .type "list", data := .seq vs.toArray n }) (hw b (List.mem_singleton.mpr rfl)).1
      exact ⟨_, hle, (g.drop l).freezeAt h1 (hw _ (by simp)).1 (hw _ (by simp)).2.1 (hO _ (by simp)), .lst upd_self rfl rfl (hs.mono hle (List.prefix_refl _))⟩
    | @inst a d es n as h1 hd hs =>
      cases hl'
      have had : b ≠ d := fun e => by subst e; rw [h1] at hd; cases hd
      have g1 := (g.drop l).freezeAt h1 (hw _ (by simp)).1 (hw _ (by simp)).2.1 (hO _ (by simp))
      have l1 := upd_le (o := instObj c.C d) (hw b (by simp)).1
      have hd0 : (updF F b (instObj c.C d)).o d = none := by show upd F.o b _ d = none; rw [upd_ne (Ne.symm had)]; exact (hw d (by simp)).1
      have g2 := g1.freezeAt hd hd0 (hw _ (by simp)).2.1 (hO _ (by simp))
      have l2 := upd_le (o := dictOf es n) hd0
      exact ⟨_, l1.trans l2, g2, .inst (l2.o _ _ upd_self) upd_self (hs.mono (l1.trans l2) (List.prefix_refl _))⟩
end
end Ev
end
section
set_option maxRecDepth 100000
set_option autoImplicit false
namespace Ev
open PySem PySem.W PySem.Calls PyProof.Rows

section
variable {c : Cx} {F F' : FM} {X X' : PMap} {fa fa' : List (Option Addr)} {ρ ρ' : List (List Addr)} {σ σ' : Sto} {s s' : Shared}

theorem adrs_fr {i : Nat} {a : Addr} : a ∈ adrs fa ρ (.fr i) ↔ fa[i]? = some (some a) := by
  simp only [adrs]
  cases e : fa[i]? with
  | none => simp
  | some o => cases o with
    | none => simp
    | some b => simp; exact eq_comm

theorem G.turnFr (g : G c F X fa ρ σ s) {i : Nat} {a : Addr} {h' : Heap} {tk : Nat} (hi : fa[i]? = some (some a)) (hk : ∀ b o, b ≠ a → s.heap.get? b = some o → h'.get? b = some o) (hl : ∃ o, h'.get? a = some o) (ht : s.toks ≤ tk) :
    G c F X fa ρ σ { s with heap := h', toks := tk } := by
  have hw := g.own (.fr i) a trivial (adrs_fr.mpr hi)
  refine { f := fun b o e => hk b o (fun q => by rw [q, hw.1] at e; cases e) (g.f b o e), x := fun b o e => hk b o (fun q => by rw [q, hw.2.1] at e; cases e) (g.x b o e), fx := g.fx, base := g.base,
           apart := g.apart, own := ?_, objs := ?_, len := g.len, gens := g.gens, os := g.os,
           tpos := fun h => Nat.lt_of_lt_of_le (g.tpos h) ht, ft := fun t x e => ⟨(g.ft t x e).1, Nat.lt_of_lt_of_le (g.ft t x e).2 ht⟩ }
  · intro t b h m
    obtain ⟨q1, q2, o, q3⟩ := g.own t b h m
    refine ⟨q1, q2, ?_⟩
    by_cases hb : b = a
    · subst hb; exact hl
    · exact ⟨o, hk b o hb q3⟩
  · intro l m e
    obtain ⟨r, h1, h2⟩ := g.objs l m e
    refine ⟨r, h1, h2.mono PLe.rfl (List.prefix_refl _) fun b hb o ho => hk b o (fun q => ?_) ho⟩
    subst q
    have := g.apart (.loc l) (.fr i) b ⟨m, e⟩ trivial (by rw [adrs_loc h1]; exact hb) (adrs_fr.mpr hi)
    cases this

open Classical in
noncomputable def hid (p : Addr → Prop) (X : PMap) (h : Heap) : PMap := fun b => if p b then h.get? b else X b
theorem hid_pos {p : Addr → Prop} {h : Heap} {b : Addr} (hp : p b) : hid p X h b = h.get? b := by simp [hid, hp]
theorem hid_neg {p : Addr → Prop} {h : Heap} {b : Addr} (hp : ¬ p b) : hid p X h b = X b := by simp [hid, hp]

noncomputable def ownedBy (fa : List (Option Addr)) (ρ : List (List Addr)) (σ : Sto) (b : Addr) : Prop := ∃ t, liveT σ t ∧ b ∈ adrs fa ρ t
noncomputable def ownedFr (fa : List (Option Addr)) (b : Addr) : Prop := ∃ i : Nat, fa[i]? = some (some b)
noncomputable def ownedBut (l : Nat) (fa : List (Option Addr)) (ρ : List (List Addr)) (σ : Sto) (b : Addr) : Prop := ∃ t, t ≠ .loc l ∧ liveT σ t ∧ b ∈ adrs fa ρ t

theorem noTag {t : Tag} {a : Addr} (h : a ∈ adrs [] [] t) : False := by cases t <;> simp [adrs] at h

theorem G.hideX (g : G c F X fa ρ σ s) {p : Addr → Prop} (hp : ∀ b, p b → ownedBy fa ρ σ b) {fa' : List (Option Addr)} {ρ' : List (List Addr)} {σ' : Sto}
    (h1 : ∀ t t' a, liveT σ' t → liveT σ' t' → a ∈ adrs fa' ρ' t → a ∈ adrs fa' ρ' t' → t = t')
    (h2 : ∀ t a, liveT σ' t → a ∈ adrs fa' ρ' t → ownedBy fa ρ σ a ∧ ¬ p a)
    (h3 : ∀ (l : Nat) (m : MObj), σ'[l]? = some (some m) → ∃ r, ρ'[l]? = some r ∧ ObjR c.C F ρ' s.heap r m) (h4 : ρ'.length = σ'.length) :
    G c F (hid p X s.heap) fa' ρ' σ' s where
  f := g.f
  x := fun a o e => by
    by_cases hb : p a
    · rw [hid_pos hb] at e; exact e
    · rw [hid_neg hb] at e; exact g.x a o e
  fx := fun a o e => by
    by_cases hb : p a
    · obtain ⟨t, l, m⟩ := hp a hb
      rw [(g.own t a l m).1] at e; cases e
    · rw [hid_neg hb]; exact g.fx a o e
  base := g.base
  apart := h1
  own := fun t a l m => by
    obtain ⟨⟨t', l', m'⟩, hn⟩ := h2 t a l m
    have := g.own t' a l' m'
    rw [hid_neg hn]; exact this
  objs := h3
  len := h4
  gens := g.gens
  os := g.os
  tpos := g.tpos
  ft := g.ft

theorem G.hide (g : G c F X fa ρ σ s) : G c F (hid (ownedBy fa ρ σ) X s.heap) [] [] [] s :=
  g.hideX (fun _ h => h) (fun t _ a _ _ h => (noTag h).elim) (fun t a _ h => (noTag h).elim) (fun l m e => by simp at e) rfl

theorem G.unhide (g : G c F X fa ρ σ s) {fa2 : List (Option Addr)} {ρ2 : List (List Addr)} {σ2 : Sto} (g' : G c F' (hid (ownedBy fa ρ σ) X s.heap) fa2 ρ2 σ2 s') (hle : PLe F F') :
    G c F' X fa ρ σ s' ∧ ∀ b o, ownedBy fa ρ σ b → s.heap.get? b = some o → s'.heap.get? b = some o := by
  have hk : ∀ b o, ownedBy fa ρ σ b → s.heap.get? b = some o → s'.heap.get? b = some o := fun b o hb e => g'.x b o (by rw [hid_pos hb]; exact e)
  refine ⟨{ f := g'.f, x := fun a o e => ?_, fx := fun a o e => ?_, base := g'.base, apart := g.apart, own := fun t a l m => ?_, objs := fun l m e => ?_, len := g.len, gens := g'.gens, os := g'.os, tpos := g'.tpos, ft := g'.ft }, hk⟩
  · by_cases hb : ownedBy fa ρ σ a
    · obtain ⟨t, l, m⟩ := hb
      rw [(g.own t a l m).2.1] at e; cases e
    · exact g'.x a o (by rw [hid_neg hb]; exact e)
  · have := g'.fx a o e
    by_cases hb : ownedBy fa ρ σ a
    · obtain ⟨t, l, m⟩ := hb
      exact (g.own t a l m).2.1
    · rw [hid_neg hb] at this; exact this
  · obtain ⟨q1, q2, o, q3⟩ := g.own t a l m
    have hb : ownedBy fa ρ σ a := ⟨t, l, m⟩
    refine ⟨?_, q2, o, hk a o hb q3⟩
    cases e : F'.o a with
    | none => rfl
    | some o' =>
      have := g'.fx a o' e
      rw [hid_pos hb, q3] at this; cases this
  · obtain ⟨r, h1, h2⟩ := g.objs l m e
    exact ⟨r, h1, h2.mono hle (List.prefix_refl _) fun b hb o ho => hk b o ⟨.loc l, ⟨m, e⟩, by rw [adrs_loc h1]; exact hb⟩ ho⟩

theorem adrs_nil_loc {l : Nat} : adrs [] ρ (.loc l) = adrs fa ρ (.loc l) := rfl
theorem G.hideFr (g : G c F X fa ρ σ s) : G c F (hid (ownedFr fa) X s.heap) [] ρ σ s := by
  have noFr : ∀ i a, ¬ a ∈ adrs ([] : List (Option Addr)) ρ (.fr i) := fun i a h => by simp [adrs] at h
  refine g.hideX (fun b ⟨i, h⟩ => ⟨.fr i, trivial, adrs_fr.mpr h⟩) ?_ ?_ g.objs g.len
  · intro t t' a h h' m m'
    cases t with
    | fr i => exact (noFr i a m).elim
    | loc l => cases t' with
      | fr i => exact (noFr i a m').elim
      | loc l' => exact g.apart _ _ a h h' m m'
  · intro t a h m
    cases t with
    | fr i => exact (noFr i a m).elim
    | loc l =>
      refine ⟨⟨.loc l, h, m⟩, fun ⟨i, hi⟩ => ?_⟩
      have := g.apart (.loc l) (.fr i) a h trivial m (adrs_fr.mpr hi)
      cases this

theorem G.unhideFr (g : G c F X fa ρ σ s) {fa2 : List (Option Addr)} (g' : G c F' (hid (ownedFr fa) X s.heap) fa2 ρ' σ' s') :
    G c F' X fa ρ' σ' s' ∧ ∀ b o, ownedFr fa b → s.heap.get? b = some o → s'.heap.get? b = some o := by
  have hk : ∀ b o, ownedFr fa b → s.heap.get? b = some o → s'.heap.get? b = some o := fun b o hb e => g'.x b o (by rw [hid_pos hb]; exact e)
  have fr : ∀ i a, fa[i]? = some (some a) → F.o a = none ∧ X a = none ∧ ∃ o, s.heap.get? a = some o := fun i a h => g.own (.fr i) a trivial (adrs_fr.mpr h)
  refine ⟨{ f := g'.f, x := fun a o e => ?_, fx := fun a o e => ?_, base := g'.base, apart := ?_, own := fun t a l m => ?_, objs := g'.objs, len := g'.len, gens := g'.gens, os := g'.os, tpos := g'.tpos, ft := g'.ft }, hk⟩
  · by_cases hb : ownedFr fa a
    · obtain ⟨i, hi⟩ := hb
      rw [(fr i a hi).2.1] at e; cases e
    · exact g'.x a o (by rw [hid_neg hb]; exact e)
  · have := g'.fx a o e
    by_cases hb : ownedFr fa a
    · obtain ⟨i, hi⟩ := hb
      exact (fr i a hi).2.1
    · rw [hid_neg hb] at this; exact this
  · have locFr : ∀ l i a, liveT σ' (.loc l) → a ∈ adrs fa ρ' (.loc l) → a ∈ adrs fa ρ' (.fr i) → False := fun l i a h m m' => by
      have q := (g'.own (.loc l) a h m).2.1
      have hi := adrs_fr.mp m'
      obtain ⟨_, _, o, e⟩ := fr i a hi
      rw [hid_pos ⟨i, hi⟩, e] at q; cases q
    intro t t' a h h' m m'
    cases t with
    | fr i => cases t' with
      | fr j => exact g.apart (.fr i) (.fr j) a trivial trivial (adrs_fr.mpr (adrs_fr.mp m)) (adrs_fr.mpr (adrs_fr.mp m'))
      | loc l => exact (locFr l i a h' m' m).elim
    | loc l => cases t' with
      | fr i => exact (locFr l i a h m m').elim
      | loc l' => exact g'.apart (.loc l) (.loc l') a h h' m m'
  · cases t with
    | fr i =>
      have hi := adrs_fr.mp m
      obtain ⟨q1, q2, o, q3⟩ := fr i a hi
      refine ⟨?_, q2, o, hk a o ⟨i, hi⟩ q3⟩
      cases e : F'.o a with
      | none => rfl
      | some o' =>
        have := g'.fx a o' e
        rw [hid_pos ⟨i, hi⟩, q3] at this; cases this
    | loc k =>
      obtain ⟨q1, q2, q3⟩ := g'.own (.loc k) a l m
      refine ⟨q1, ?_, q3⟩
      by_cases hb : ownedFr fa a
      · obtain ⟨i, hi⟩ := hb
        exact (fr i a hi).2.1
      · rw [hid_neg hb] at q2; exact q2

/-- a new frame -/
theorem G.newFr (g : G c F X [] ρ σ s) (h : ∀ (i : Nat) a, fa[i]? = some (some a) → F.o a = none ∧ X a = none ∧ (∀ t, liveT σ t → a ∉ adrs [] ρ t) ∧ ∃ o, s.heap.get? a = some o)
    (hi : ∀ (i j : Nat) a, fa[i]? = some (some a) → fa[j]? = some (some a) → i = j) : G c F X fa ρ σ s where
  f := g.f
  x := g.x
  fx := g.fx
  base := g.base
  apart := fun t t' a l l' m m' => by
    cases t with
    | fr i => cases t' with
      | fr j => rw [hi i j a (adrs_fr.mp m) (adrs_fr.mp m')]
      | loc k => exact absurd m' ((h i a (adrs_fr.mp m)).2.2.1 (.loc k) l')
    | loc k => cases t' with
      | fr j => exact absurd m ((h j a (adrs_fr.mp m')).2.2.1 (.loc k) l)
      | loc k' => exact g.apart (.loc k) (.loc k') a l l' m m'
  own := fun t a l m => by
    cases t with
    | fr i => obtain ⟨a1, a2, _, a3⟩ := h i a (adrs_fr.mp m); exact ⟨a1, a2, a3⟩
    | loc k => exact g.own (.loc k) a l m
  objs := g.objs
  len := g.len
  gens := g.gens
  os := g.os
  tpos := g.tpos
  ft := g.ft

/-- protect an object that is nobody's, for the time of a loop's turn -/
theorem G.guard (g : G c F X fa ρ σ s) {a : Addr} {o : Obj} (ho : s.heap.get? a = some o) (hF : F.o a = none) (hO : ∀ t, liveT σ t → a ∉ adrs fa ρ t) : G c F (upd X a o) fa ρ σ s where
  f := g.f
  x := fun b o' e => by
    unfold upd at e; split at e
    · rename_i q; cases e; rw [q]; exact ho
    · exact g.x b o' e
  fx := fun b o' e => by
    rw [upd_ne]; exact g.fx b o' e
    intro q; rw [q, hF] at e; cases e
  base := g.base
  apart := g.apart
  own := fun t b l m => by
    obtain ⟨q1, q2, q3⟩ := g.own t b l m
    refine ⟨q1, ?_, q3⟩
    rw [upd_ne]; exact q2
    intro e; exact hO t l (e ▸ m)
  objs := g.objs
  len := g.len
  gens := g.gens
  os := g.os
  tpos := g.tpos
  ft := g.ft
theorem G.unguard {a : Addr} {o : Obj} (hX : X a = none) (g : G c F (upd X a o) fa ρ σ s) : G c F X fa ρ σ s ∧ s.heap.get? a = some o ∧ F.o a = none ∧ ∀ t, liveT σ t → a ∉ adrs fa ρ t := by
  have le : ∀ b o', X b = some o' → upd X a o b = some o' := upd_get hX
  refine ⟨{ f := g.f, x := fun b o' e => g.x b o' (le b o' e), fx := fun b o' e => ?_, base := g.base, apart := g.apart, own := fun t b l m => ?_, objs := g.objs, len := g.len, gens := g.gens, os := g.os, tpos := g.tpos, ft := g.ft }, g.x a o upd_self, ?_, ?_⟩
  · have := g.fx b o' e
    unfold upd at this; split at this
    · cases this
    · exact this
  · obtain ⟨q1, q2, q3⟩ := g.own t b l m
    refine ⟨q1, ?_, q3⟩
    unfold upd at q2; split at q2
    · cases q2
    · exact q2
  · cases e : F.o a with
    | none => rfl
    | some o' => have := g.fx a o' e; rw [upd_self] at this; cases this
  · intro t l m
    have := (g.own t a l m).2.1
    rw [upd_self] at this; cases this

/-- keep one live object, hide all else: for a call that turns one list -/
theorem G.hideBut (g : G c F X fa ρ σ s) {l : Nat} {m : MObj} {r : List Addr} (hl : σ[l]? = some (some m)) (hr : ρ[l]? = some r) (hm : ObjR c.C F [r] s.heap r m) :
    G c F (hid (ownedBut l fa ρ σ) X s.heap) [] [r] [some m] s := by
  have one : ∀ t a, liveT [some m] t → a ∈ adrs [] [r] t → t = .loc 0 ∧ a ∈ r := by
    intro t a h ha
    cases t with
    | fr i => simp [adrs] at ha
    | loc k =>
      cases k with
      | zero => exact ⟨rfl, by simpa [adrs] using ha⟩
      | succ k => simp [adrs] at ha
  refine g.hideX (fun b ⟨t, _, h, m⟩ => ⟨t, h, m⟩) ?_ ?_ ?_ rfl
  · intro t t' a h h' a1 a2; rw [(one t a h a1).1, (one t' a h' a2).1]
  · intro t a h a1
    have q := (one t a h a1).2
    have q' : a ∈ adrs fa ρ (.loc l) := by rw [adrs_loc hr]; exact q
    exact ⟨⟨.loc l, ⟨m, hl⟩, q'⟩, fun ⟨t', hne, h', m'⟩ => hne (g.apart _ _ a h' ⟨m, hl⟩ m' q')⟩
  · intro k m' e
    cases k with
    | zero => simp at e; subst e; exact ⟨r, rfl, hm⟩
    | succ k => simp at e
theorem G.unhideBut (g : G c F X fa ρ σ s) {l : Nat} {m m' : MObj} {r : List Addr} (hl : σ[l]? = some (some m)) (hr : ρ[l]? = some r)
    (g' : G c F' (hid (ownedBut l fa ρ σ) X s.heap) [] [r] [some m'] s') (hle : PLe F F') (hm : ObjR c.C F' ρ s'.heap r m') :
    G c F' X fa ρ (σ.set l (some m')) s' ∧ ∀ b o, ownedFr fa b → s.heap.get? b = some o → s'.heap.get? b = some o := by
  have hlt : l < σ.length := (List.getElem?_eq_some_iff.mp hl).1
  have hk : ∀ b o, ownedBut l fa ρ σ b → s.heap.get? b = some o → s'.heap.get? b = some o := fun b o hb e => g'.x b o (by rw [hid_pos hb]; exact e)
  have lv : ∀ t, liveT (σ.set l (some m')) t → liveT σ t := by
    intro t ht
    cases t with
    | fr i => trivial
    | loc k =>
      obtain ⟨q, e⟩ := ht
      by_cases hkl : k = l
      · subst hkl; exact ⟨m, hl⟩
      · rw [List.getElem?_set_ne (Ne.symm hkl)] at e; exact ⟨q, e⟩
  refine ⟨{ f := g'.f, x := fun a o e => ?_, fx := fun a o e => ?_, base := g'.base, apart := fun t t' a h h' => g.apart t t' a (lv t h) (lv t' h'), own := fun t a h m1 => ?_, objs := fun k q e => ?_, len := by simpa using g.len, gens := g'.gens, os := g'.os, tpos := g'.tpos, ft := g'.ft },
    fun b o ⟨i, hi⟩ e => hk b o ⟨.fr i, (fun q => by cases q), trivial, adrs_fr.mpr hi⟩ e⟩
  · by_cases hb : ownedBut l fa ρ σ a
    · obtain ⟨t, _, h, m1⟩ := hb
      rw [(g.own t a h m1).2.1] at e; cases e
    · exact g'.x a o (by rw [hid_neg hb]; exact e)
  · have := g'.fx a o e
    by_cases hb : ownedBut l fa ρ σ a
    · obtain ⟨t, _, h, m1⟩ := hb
      exact (g.own t a h m1).2.1
    · rw [hid_neg hb] at this; exact this
  · obtain ⟨q1, q2, o, q3⟩ := g.own t a (lv t h) m1
    by_cases ht : t = .loc l
    · subst ht
      rw [adrs_loc hr] at m1
      obtain ⟨p1, p2, p3⟩ := g'.own (.loc 0) a ⟨m', rfl⟩ (by simpa [adrs] using m1)
      exact ⟨p1, q2, p3⟩
    · have hb : ownedBut l fa ρ σ a := ⟨t, ht, lv t h, m1⟩
      refine ⟨?_, q2, o, hk a o hb q3⟩
      cases e : F'.o a with
      | none => rfl
      | some o' =>
        have := g'.fx a o' e
        rw [hid_pos hb, q3] at this; cases this
  · by_cases hkl : k = l
    · subst hkl
      rw [List.getElem?_set_self hlt] at e; cases e
      exact ⟨r, hr, hm⟩
    · rw [List.getElem?_set_ne (Ne.symm hkl)] at e
      obtain ⟨r', h1, h2⟩ := g.objs k q e
      exact ⟨r', h1, h2.mono hle (List.prefix_refl _) fun b hb o ho => hk b o ⟨.loc k, (fun x => hkl (by cases x; rfl)), ⟨q, e⟩, by rw [adrs_loc h1]; exact hb⟩ ho⟩
end
end Ev
end
section
set_option maxRecDepth 100000
set_option autoImplicit false
namespace Ev
open PySem PySem.W PySem.Calls PyProof.Rows

/-- what stands at the base, for good -/
structure Bas (c : Cx) : Prop where
  K : c.K.In c.B
  g : ∃ mg, c.B.Ns mainGlobals mg
  b : ∃ mb, c.B.Ns builtinsNs mb ∧ ∀ x : Str, x ≠ "__name__" → mb x = bootBuiltins x
  nolimit : c.B.NoLimit

structure FrR (c : Cx) (nm : List (Str × NameKind)) (F : FM) (X : PMap) (ρ : List (List Addr)) (env : Env) (fa : List (Option Addr)) (vars : List (Option D)) (h : Heap) : Prop where
  kindF : env.scope.kind = .function
  glob : env.globals = mainGlobals
  bi : env.builtins = builtinsNs
  nd : (nm.map (·.1)).Nodup
  len : vars.length = nm.length
  l0 : fa[0]? = some (some env.locals)
  kinds : ∀ x k, nm.lookup x = some k → (k = .free → env.kindOf x = some .cell ∨ env.kindOf x = some .free) ∧ (k ≠ .free → env.kindOf x = some k)
  ns : ∃ m, h.Ns env.locals m ∧ ∀ (i : Nat) x d, nm[i]? = some (x, .local) → vars[i]? = some (some d) → ∃ v, m x = some v ∧ Rv c.C F ρ v d
  cell : ∀ (i : Nat) x, nm[i]? = some (x, .cell) → ∃ a w, env.cells.lookup x = some a ∧ fa[i + 1]? = some (some a) ∧ h.IsCell a w ∧ ∀ d, vars[i]? = some (some d) → ∃ v, w = some v ∧ Rv c.C F ρ v d
  free : ∀ (i : Nat) x d, nm[i]? = some (x, .free) → vars[i]? = some (some d) → ∃ a o v, env.cells.lookup x = some a ∧ X a = some o ∧ o.data = .cell (some v) ∧ Rv c.C F ρ v d

section
variable {c : Cx} {nm : List (Str × NameKind)} {F F' : FM} {X X' : PMap} {fa fa' : List (Option Addr)} {ρ ρ' : List (List Addr)} {σ σ' : Sto} {s s' : Shared} {env : Env} {vars : List (Option D)}

theorem FrR.to {h h' : Heap} (f : FrR c nm F X ρ env fa vars h) (hF : PLe F F') (hρ : ρ <+: ρ') (hh : ∀ (i : Nat) a o, fa[i]? = some (some a) → h.get? a = some o → h'.get? a = some o) : FrR c nm F' X ρ' env fa vars h' where
  kindF := f.kindF
  glob := f.glob
  bi := f.bi
  nd := f.nd
  len := f.len
  l0 := f.l0
  kinds := f.kinds
  ns := by
    obtain ⟨m, hn, hv⟩ := f.ns
    refine ⟨m, hn.at' fun o e => hh 0 _ o f.l0 e, fun i x d h1 h2 => ?_⟩
    obtain ⟨v, a, b⟩ := hv i x d h1 h2
    exact ⟨v, a, b.mono hF hρ⟩
  cell := fun i x h1 => by
    obtain ⟨a, w, q1, q2, ⟨o, q3, q4⟩, q5⟩ := f.cell i x h1
    refine ⟨a, w, q1, q2, ⟨o, hh _ a o q2 q3, q4⟩, fun d hd => ?_⟩
    obtain ⟨v, e, r⟩ := q5 d hd
    exact ⟨v, e, r.mono hF hρ⟩
  free := fun i x d h1 h2 => by
    obtain ⟨a, o, v, q1, q2, q3, q4⟩ := f.free i x d h1 h2
    exact ⟨a, o, v, q1, q2, q3, q4.mono hF hρ⟩
theorem FrR.guard {h : Heap} {a : Addr} {o : Obj} (hX : X a = none) (f : FrR c nm F X ρ env fa vars h) : FrR c nm F (upd X a o) ρ env fa vars h := by
  refine { f with free := ?_ }
  intro i x d h1 h2
  obtain ⟨b, o', v, q1, q2, q3, q4⟩ := f.free i x d h1 h2
  exact ⟨b, o', v, q1, upd_get hX b o' q2, q3, q4⟩
theorem FrR.unguard {h : Heap} {a : Addr} {o : Obj} (hc : ∀ w, o.data ≠ .cell w) (f : FrR c nm F (upd X a o) ρ env fa vars h) : FrR c nm F X ρ env fa vars h := by
  refine { f with free := ?_ }
  intro i x d h1 h2
  obtain ⟨b, o', v, q1, q2, q3, q4⟩ := f.free i x d h1 h2
  refine ⟨b, o', v, q1, ?_, q3, q4⟩
  unfold upd at q2; split at q2
  · cases q2; exact absurd q3 (hc _)
  · exact q2

theorem lookup_idx : ∀ {nm : List (Str × NameKind)} {i : Nat} {x : Str} {k : NameKind}, (nm.map (·.1)).Nodup → nm[i]? = some (x, k) → nm.lookup x = some k
  | [], i, x, k, _, h => by simp at h
  | (y, j) :: r, 0, x, k, _, h => by simp at h; obtain ⟨rfl, rfl⟩ := h; simp [List.lookup_cons]
  | (y, j) :: r, i + 1, x, k, nd, h => by
    have h' : r[i]? = some (x, k) := by simpa using h
    simp only [List.map_cons, List.nodup_cons] at nd
    have hne : (x == y) = false := by
      rw [beq_eq_false_iff_ne]; intro e; subst e
      exact nd.1 (List.mem_map.mpr ⟨(x, k), List.mem_of_getElem? h', rfl⟩)
    rw [List.lookup_cons, hne]
    exact lookup_idx nd.2 h'
theorem name_idx : ∀ {nm : List (Str × NameKind)} {i j : Nat} {x : Str} {k k' : NameKind}, (nm.map (·.1)).Nodup → nm[i]? = some (x, k) → nm[j]? = some (x, k') → i = j
  | [], i, _, _, _, _, _, h, _ => by simp at h
  | (y, q) :: r, 0, 0, _, _, _, _, _, _ => rfl
  | (y, q) :: r, 0, j + 1, x, k, k', nd, h, h' => by
    simp at h; obtain ⟨rfl, rfl⟩ := h
    simp only [List.map_cons, List.nodup_cons] at nd
    exact absurd (List.mem_map.mpr ⟨(y, k'), List.mem_of_getElem? (by simpa using h'), rfl⟩) nd.1
  | (y, q) :: r, i + 1, 0, x, k, k', nd, h, h' => by
    simp at h'; obtain ⟨rfl, rfl⟩ := h'
    simp only [List.map_cons, List.nodup_cons] at nd
    exact absurd (List.mem_map.mpr ⟨(y, k), List.mem_of_getElem? (by simpa using h), rfl⟩) nd.1
  | (y, q) :: r, i + 1, j + 1, x, k, k', nd, h, h' => by
    simp only [List.map_cons, List.nodup_cons] at nd
    exact congrArg (· + 1) (name_idx nd.2 (by simpa using h) (by simpa using h'))

variable {prog : Program} {w : World} {A : Around} {E : Value → Shared → Prop}

theorem FrR.load {M : Model} {i : Nat} {x : Str} {k : NameKind} {pos : Pos} {d : D} {Q : Value → Shared → Prop} (f : FrR c nm F X ρ env fa vars s.heap) (g : G c F X fa ρ σ s)
    (hx : nm[i]? = some (x, k)) (hk : k = .local ∨ k = .cell ∨ k = .free) (hd : vars[i]? = some (some d)) (hdb : (x == ("__debug__" : Str)) = false) (hcd : (x == ("__classdict__" : Str)) = false)
    (h : ∀ v, Rv c.C F ρ v d → Q v s) : wpAny M A (eval (.Name x pos) env) Q E s := by
  have hl := lookup_idx f.nd hx
  have hk' := f.kinds x k hl
  rcases hk with rfl | rfl | rfl
  · obtain ⟨m, hn, hv⟩ := f.ns
    obtain ⟨v, e, r⟩ := hv i x d hx hd
    exact wpAny_Name (wpAny_loadName_local f.kindF (hk'.2 (by decide)) hn e (h v r)) hdb
  · obtain ⟨a, w, q1, q2, q3, q4⟩ := f.cell i x hx
    obtain ⟨v, rfl, r⟩ := q4 d hd
    exact wpAny_Name (wpAny_loadName_cell f.kindF (hk'.2 (by decide)) q1 q3 (h v r)) hdb
  · obtain ⟨a, o, v, q1, q2, q3, q4⟩ := f.free i x d hx hd
    have hc : s.heap.IsCell a (some v) := ⟨o, g.x a o q2, q3⟩
    rcases hk'.1 rfl with e | e
    · exact wpAny_Name (wpAny_loadName_cell f.kindF e q1 hc (h v q4)) hdb
    · exact wpAny_Name (wpAny_loadName_free f.kindF e q1 hc (h v q4) hcd) hdb

theorem FrR.store {M : Model} {i : Nat} {x : Str} {k : NameKind} {v : Value} {d : D} {Q : Unit → Shared → Prop} (f : FrR c nm F X ρ env fa vars s.heap) (g : G c F X fa ρ σ s)
    (hx : nm[i]? = some (x, k)) (hk : k = .local ∨ k = .cell) (hv : Rv c.C F ρ v d)
    (h : ∀ s', G c F X fa ρ σ s' → FrR c nm F X ρ env fa (vars.set i (some d)) s'.heap → Q () s') : wpAny M A (storeName env x v) Q E s := by
  have hl := lookup_idx f.nd hx
  have hk' := f.kinds x k hl
  have hi : i < vars.length := by rw [f.len]; exact (List.getElem?_eq_some_iff.mp hx).1
  rcases hk with rfl | rfl
  · obtain ⟨m, hn, hm⟩ := f.ns
    refine wpAny_storeName_local (hk'.2 (by decide)) hn (fun h' hn' hs' => ?_) (by rw [f.kindF]; rfl)
    have g' : G c F X fa ρ σ { s with heap := h', toks := s.toks + 1 } := g.turnFr f.l0 (fun b o hb e => (hs'.2 b hb).trans e) (let ⟨o, _, _, e, _⟩ := hn'; ⟨o, e⟩) (Nat.le_succ _)
    refine h _ g' { f with len := by simpa using f.len, ns := ⟨_, hn', fun j y e h1 h2 => ?_⟩, cell := fun j y h1 => ?_, free := fun j y e h1 h2 => ?_ }
    · by_cases hij : j = i
      · subst hij
        rw [hx] at h1; cases h1
        rw [List.getElem?_set_self hi] at h2; cases h2
        exact ⟨v, by simp, hv⟩
      · rw [List.getElem?_set_ne (Ne.symm hij)] at h2
        obtain ⟨u, e1, e2⟩ := hm j y e h1 h2
        refine ⟨u, ?_, e2⟩
        have : y ≠ x := fun q => hij (name_idx f.nd h1 (q ▸ hx))
        simp [this, e1]
    · obtain ⟨a, w, q1, q2, ⟨o, q3, q4⟩, q5⟩ := f.cell j y h1
      have hne : j ≠ i := fun q => by subst q; rw [hx] at h1; cases h1
      have ha : a ≠ env.locals := fun q => by
        have := g.apart (.fr (j + 1)) (.fr 0) a trivial trivial (adrs_fr.mpr q2) (adrs_fr.mpr (q ▸ f.l0))
        cases this
      refine ⟨a, w, q1, q2, ⟨o, (hs'.2 a ha).trans q3, q4⟩, fun e he => ?_⟩
      rw [List.getElem?_set_ne (Ne.symm hne)] at he
      exact q5 e he
    · have hne : j ≠ i := fun q => by subst q; rw [hx] at h1; cases h1
      rw [List.getElem?_set_ne (Ne.symm hne)] at h2
      exact f.free j y e h1 h2
  · obtain ⟨a, w, q1, q2, q3, q4⟩ := f.cell i x hx
    refine wpAny_storeName_cell f.kindF (hk'.2 (by decide)) q1 q3 fun h' hc' hs' => ?_
    have g' : G c F X fa ρ σ { s with heap := h' } := g.turnFr (tk := s.toks) q2 (fun b o hb e => (hs'.2 b hb).trans e) (let ⟨o, e, _⟩ := hc'; ⟨o, e⟩) (Nat.le_refl _)
    refine h _ g' { f with len := by simpa using f.len, ns := ?_, cell := fun j y h1 => ?_, free := fun j y e h1 h2 => ?_ }
    · obtain ⟨m, hn, hm⟩ := f.ns
      have ha : env.locals ≠ a := fun q => by
        have := g.apart (.fr (i + 1)) (.fr 0) a trivial trivial (adrs_fr.mpr q2) (adrs_fr.mpr (q ▸ f.l0))
        cases this
      refine ⟨m, hn.sameBut hs' ha, fun j y e h1 h2 => ?_⟩
      have hne : j ≠ i := fun q => by subst q; rw [hx] at h1; cases h1
      rw [List.getElem?_set_ne (Ne.symm hne)] at h2
      exact hm j y e h1 h2
    · by_cases hij : j = i
      · subst hij
        rw [hx] at h1; cases h1
        refine ⟨a, some v, q1, q2, hc', fun e he => ?_⟩
        rw [List.getElem?_set_self hi] at he; cases he
        exact ⟨v, rfl, hv⟩
      · obtain ⟨a', w', p1, p2, ⟨o, p3, p4⟩, p5⟩ := f.cell j y h1
        have ha : a' ≠ a := fun q => by
          have := g.apart (.fr (j + 1)) (.fr (i + 1)) a trivial trivial (adrs_fr.mpr (q ▸ p2)) (adrs_fr.mpr q2)
          cases this; exact hij rfl
        refine ⟨a', w', p1, p2, ⟨o, (hs'.2 a' ha).trans p3, p4⟩, fun e he => ?_⟩
        rw [List.getElem?_set_ne (Ne.symm hij)] at he
        exact p5 e he
    · have hne : j ≠ i := fun q => by subst q; rw [hx] at h1; cases h1
      rw [List.getElem?_set_ne (Ne.symm hne)] at h2
      exact f.free j y e h1 h2

/-- a global name of the text | a built-in's -/
theorem FrR.global {M : Model} {x : Str} {pos : Pos} {v : Value} {Q : Value → Shared → Prop} (Z : Bas c) (f : FrR c nm F X ρ env fa vars s.heap) (g : G c F X fa ρ σ s)
    (hk : nm.lookup x = some .globalImplicit) (e : nsIn c.K mainGlobals x = some (some v)) (hdb : (x == ("__debug__" : Str)) = false) (h : Q v s) : wpAny M A (eval (.Name x pos) env) Q E s := by
  obtain ⟨mg, hg⟩ := Z.g
  have kp : ∀ b o, c.B.get? b = some o → s.heap.get? b = some o := fun b o q => g.f b o (g.base b o q)
  exact Name_function_global f.kindF ((f.kinds x _ hk).2 (by decide)) (loadGlobal_global (mg := mg) (by rw [f.glob]; exact hg.keeps kp) (mg_of Z.K hg e) h) hdb
theorem FrR.builtin {M : Model} {x : Str} {pos : Pos} {v : Value} {Q : Value → Shared → Prop} (Z : Bas c) (f : FrR c nm F X ρ env fa vars s.heap) (g : G c F X fa ρ σ s)
    (hk : nm.lookup x = some .globalImplicit) (e : nsIn c.K mainGlobals x = some none) (hv : bootBuiltins x = some v) (hn : x ≠ "__name__") (hdb : (x == ("__debug__" : Str)) = false) (h : Q v s) : wpAny M A (eval (.Name x pos) env) Q E s := by
  obtain ⟨mg, hg⟩ := Z.g
  obtain ⟨mb, hb, hbb⟩ := Z.b
  have kp : ∀ b o, c.B.get? b = some o → s.heap.get? b = some o := fun b o q => g.f b o (g.base b o q)
  exact Name_function_global f.kindF ((f.kinds x _ hk).2 (by decide)) (loadGlobal_builtin (mg := mg) (mb := mb) (by rw [f.glob]; exact hg.keeps kp) (mg_none_of Z.K hg e) (by rw [f.bi]; exact hb.keeps kp) ((hbb x hn).trans hv) h) hdb
end
end Ev
end
section
set_option maxRecDepth 100000
set_option autoImplicit false
namespace Ev
open PySem

/-! my own syntax -/
inductive Bi where
  | len | max | min | abs | round | sum | sorted | list | tuple | divmod | range | enumerate | zip
  deriving DecidableEq

inductive T where
  | var (i : Nat)
  | tup (is : List Nat)

inductive E where
  | lit (d : D)
  | var (i : Nat)
  | bin (op : Operator) (a b : E)
  | rep (a n : E)
  | neg (a : E)
  | not (a : E)
  | both (a b : E)
  | either (a b : E)
  | cmp (op : CmpOp) (a b : E)
  | ite (c a b : E)
  | tup (es : List E)
  | lst (es : List E)
  | idx (a i : E)
  | sli (a : E) (lo hi st : Option E)
  | attr (a : E) (k : Nat)
  | call (f : Nat) (es : List E)
  | mcall (f : Nat) (o : E) (es : List E)
  | meth (f : Nat) (o : E) (es : List E)
  | new (a : E)
  | bi (b : Bi) (es : List E)
  | append (o a : E)
  | pop (o : E)
  | join (o a : E)
  | split (o a : E)
  | comp (ini : List (Option Nat)) (elt : E) (t : T) (it : E) (ifs : List E)
  | sortKey (a : E) (ini : List (Option Nat)) (key : E)

inductive S where
  | asg (ts : List T) (e : E)
  | setAttr (o : E) (k : Nat) (e : E)
  | setIdx (o i : E) (e : E)
  | expr (e : E)
  | ret (e : E)
  | ite (c : E) (a b : List S)
  | wh (c : E) (b : List S)
  | for (t : T) (it : E) (b : List S)
  | brk
  | cont

/-! scalars -/
noncomputable def small (i : Int) : Bool := decide (i.natAbs < 2 ^ 62)
noncomputable def maxLen : Nat := 2 ^ 20

mutual
noncomputable def D.beq : D → D → Bool
  | .none, .none => true
  | .bool a, .bool b => a == b
  | .int a, .int b => a == b
  | .flt a, .flt b => a == b
  | .str a, .str b => a == b
  | .tup a, .tup b => D.beqs a b
  | .lst a, .lst b => D.beqs a b
  | .inst a, .inst b => D.beqa a b
  | .loc a, .loc b => a == b
  | _, _ => false
noncomputable def D.beqs : List D → List D → Bool
  | [], [] => true
  | a :: as, b :: bs => D.beq a b && D.beqs as bs
  | _, _ => false
noncomputable def D.beqa : List (Nat × D) → List (Nat × D) → Bool
  | [], [] => true
  | (i, a) :: as, (j, b) :: bs => i == j && D.beq a b && D.beqa as bs
  | _, _ => false
end

-- how deep
mutual
noncomputable def D.dep : D → Nat
  | .tup xs => D.deps xs + 1
  | .lst xs => D.deps xs + 1
  | _ => 0
noncomputable def D.deps : List D → Nat
  | [] => 0
  | x :: xs => max (D.dep x) (D.deps xs)
end
-- Python's ==
noncomputable def eqInt (a : Int) : D → Option Bool
  | .int b => some (a == b)
  | _ => none
noncomputable def eqBoolD (a : Bool) : D → Option Bool
  | .bool b => some (a == b)
  | _ => none
noncomputable def eqFlt (a : UInt64) : D → Option Bool
  | .flt b => if Float64.isNaN a || Float64.isNaN b then none else some (Float64.cmp a b == some Ordering.eq)
  | _ => none
noncomputable def eqStr (a : List Nat) : D → Option Bool
  | .str b => some (a == b)
  | _ => none
noncomputable def eqNone : D → Option Bool
  | .none => some true
  | _ => none
noncomputable def onTup (f : List D → Option Bool) : D → Option Bool
  | .tup b => f b
  | _ => none
noncomputable def onLst (f : List D → Option Bool) : D → Option Bool
  | .lst b => f b
  | _ => none
mutual
noncomputable def eqD : D → D → Option Bool
  | .none, y => eqNone y
  | .bool a, y => eqBoolD a y
  | .int a, y => eqInt a y
  | .flt a, y => eqFlt a y
  | .str a, y => eqStr a y
  | .tup a, y => onTup (fun b => eqDs a b) y
  | .lst a, y => onLst (fun b => if a.length == b.length then eqDs a b else some false) y
  | .inst _, _ => none
  | .loc _, _ => none
noncomputable def eqDs : List D → List D → Option Bool
  | [], [] => some true
  | [], _ :: _ => some false
  | _ :: _, [] => some false
  | a :: as, b :: bs => (eqD a b).bind fun p => (eqDs as bs).map fun q => p && q
end

-- Python's <
noncomputable def ltInt (a : Int) : D → Option Bool
  | .int b => some (decide (a < b))
  | _ => none
noncomputable def ltFlt (a : UInt64) : D → Option Bool
  | .flt b => if Float64.isNaN a || Float64.isNaN b then none else some (Float64.cmp a b == some Ordering.lt)
  | _ => none
mutual
noncomputable def ltD : D → D → Option Bool
  | .int a, y => ltInt a y
  | .flt a, y => ltFlt a y
  | .tup a, y => onTup (fun b => ltDs a b) y
  | _, _ => none
noncomputable def ltDs : List D → List D → Option Bool
  | [], [] => some false
  | [], _ :: _ => some true
  | _ :: _, [] => some false
  | a :: as, b :: bs => (eqD a b).bind fun p => if p then ltDs as bs else ltD a b
end

/-- a comparison of two ints | two floats -/
noncomputable def numCmp2 (f : Int → Int → Bool) (g : UInt64 → UInt64 → Bool) : D → D → Option Bool
  | .int a, y => (match y with | .int b => some (f a b) | _ => none)
  | .flt a, y => (match y with | .flt b => some (g a b) | _ => none)
  | _, _ => none
noncomputable def cmpD (op : CmpOp) (a b : D) : Option Bool := match op with
  | .Eq => eqD a b
  | .NotEq => (eqD a b).map (!·)
  | .Lt => ltD a b
  | .LtE => numCmp2 (fun a b => decide (a ≤ b)) (fun a b => Float64.cmp a b == some Ordering.lt || Float64.cmp a b == some Ordering.eq) a b
  | .Gt => numCmp2 (fun a b => decide (a > b)) (fun a b => Float64.cmp a b == some Ordering.gt) a b
  | .GtE => numCmp2 (fun a b => decide (a ≥ b)) (fun a b => Float64.cmp a b == some Ordering.gt || Float64.cmp a b == some Ordering.eq) a b
  | _ => none

noncomputable def allBool : List D → Option (List Bool)
  | [] => some []
  | .bool b :: r => (allBool r).map (b :: ·)
  | _ :: _ => none
noncomputable def inD (a b : D) : Option Bool := match a with
  | .bool a => (match b with | .lst xs => (allBool xs).map (·.contains a) | _ => none)
  | _ => none

noncomputable def isFlt : D → Bool
  | .flt _ => true
  | _ => false
noncomputable def bitsOk (i : Int) : Bool := !Float64.isInf (Float64.ofInt i)
noncomputable def binII (op : Operator) (a b : Int) : Option D := match op with
  | .Add => some (.int (a + b))
  | .Sub => some (.int (a - b))
  | .Mult => if small a || small b then some (.int (a * b)) else none
  | .FloorDiv => if b == 0 || !small b then none else some (.int (a.fdiv b))
  | .Mod => if b == 0 then none else some (.int (a.fmod b))
  | .RShift => if 0 ≤ b ∧ b ≤ 64 then some (.int (a.fdiv (2 ^ b.toNat))) else none
  | .Pow => if small a && decide (0 ≤ b ∧ b ≤ 64) then some (.int (a ^ b.toNat)) else none
  | .Div => if b == 0 || Float64.isInf (Float64.ofFrac (decide (a < 0) != decide (b < 0)) a.natAbs b.natAbs) then none else some (.flt (Float64.ofFrac (decide (a < 0) != decide (b < 0)) a.natAbs b.natAbs))
  | _ => none
noncomputable def binFF (op : Operator) (a b : UInt64) : Option D := match op with
  | .Add => some (.flt (Float64.add a b))
  | .Sub => some (.flt (Float64.sub a b))
  | .Mult => some (.flt (Float64.mul a b))
  | .Div => if Float64.isZero b then none else some (.flt (Float64.div a b))
  | .Mod => if Float64.isZero b then none else some (.flt (Float64.divmod a b).2)
  | _ => none
noncomputable def binIF (op : Operator) (a : Int) (b : UInt64) : Option D := match op with
  | .Div => if !bitsOk a || Float64.isZero b then none else some (.flt (Float64.div (Float64.ofInt a) b))
  | .Mult => if !bitsOk a then none else some (.flt (Float64.mul (Float64.ofInt a) b))
  | _ => none
noncomputable def binSS (op : Operator) (a b : List Nat) : Option D := match op with
  | .Add => if a.length + b.length ≤ maxLen then some (.str (a ++ b)) else none
  | _ => none
noncomputable def binSI (op : Operator) (a : List Nat) (n : Int) : Option D := match op with
  | .Mult => if small n && decide (a.length * n.toNat ≤ maxLen) then some (.str (List.replicate n.toNat a).flatten) else none
  | _ => none
noncomputable def binD (op : Operator) (x y : D) : Option D := match x with
  | .int a => (match y with | .int b => binII op a b | .flt b => binIF op a b | _ => none)
  | .flt a => (match y with | .flt b => binFF op a b | _ => none)
  | .str a => (match y with | .str b => binSS op a b | .int n => binSI op a n | _ => none)
  | _ => none

noncomputable def truthD : D → Option Bool
  | .bool b => some b
  | .int i => some (!(i == 0))
  | .lst xs => if xs.length ≤ maxLen then some (!xs.isEmpty) else none
  | _ => none

/-- the items of a list | a tuple -/
noncomputable def seqD : D → Option (List D)
  | .lst xs => some xs
  | .tup xs => some xs
  | _ => none
noncomputable def intD : D → Option Int
  | .int i => some i
  | _ => none
noncomputable def lstD : D → Option (List D)
  | .lst xs => some xs
  | _ => none
noncomputable def strD : D → Option (List Nat)
  | .str a => some a
  | _ => none
noncomputable def idxD (a i : D) : Option D := (seqD a).bind fun xs => (intD i).bind fun i => if 0 ≤ i ∧ small i then xs[i.toNat]? else none

/-- a slice of a list -/
noncomputable def sliD (a : D) (lo hi st : Option Int) : Option D := (lstD a).bind fun xs =>
  if xs.length ≤ maxLen ∧ st ≠ some 0 then
      some (.lst ((sliceRange (sliceBounds lo hi st xs.length).1 (sliceBounds lo hi st xs.length).2.1 (sliceBounds lo hi st xs.length).2.2).filterMap (xs[·]?))) else none

/-- the first that is the greatest | least, by Python's own > | < -/
noncomputable def pickBest (gt : D → D → Option Bool) : D → List D → Option D
  | b, [] => some b
  | b, x :: xs => match gt x b with
    | some true => pickBest gt x xs
    | some false => pickBest gt b xs
    | none => none
noncomputable def num : D → Bool
  | .int _ => true
  | .flt _ => true
  | _ => false
noncomputable def bestOf (op : CmpOp) (xs : List D) : Option D := match xs with
  | x :: r => if xs.all num then pickBest (cmpD op) x r else none
  | [] => none

noncomputable def intsOf : List D → Option (List Int)
  | [] => some []
  | .int i :: r => (intsOf r).map (i :: ·)
  | _ :: _ => none
noncomputable def sumInts : List Int → Int
  | [] => 0
  | i :: r => i + sumInts r

/-- Python's sort of a short list of tuples led by ints, as it goes on: the run ahead, then each next one laid in -/
noncomputable def lessT : List D → List D → Option Bool
  | [], [] => some false
  | [], _ :: _ => some true
  | _ :: _, [] => some false
  | a :: as, b :: bs => (intD a).bind fun x => (intD b).bind fun y => if x == y then lessT as bs else some (decide (x < y))
noncomputable def tupD : D → Option (List D)
  | .tup xs => some xs
  | _ => none
noncomputable def lessA (ds : List D) (i j : Nat) : Option Bool := (ds[i]?.bind tupD).bind fun x => (ds[j]?.bind tupD).bind fun y => lessT x y
/-- the answer of a sort, as it asks -/
noncomputable def treeD {α : Type} (less : Nat → Nat → Option Bool) : PySem.W.KasT α → Option α
  | .ret a => some a
  | .ask i j k => (less i j).bind fun b => treeD less (k b)
noncomputable def headInt (d : D) : Bool := match (tupD d).bind List.head? with
  | some x => (intD x).isSome
  | none => false
noncomputable def sortD (xs : List D) : Option (List D) := if xs.length < 64 ∧ xs.all headInt then (if xs.length < 2 then some xs else (treeD (lessA xs) (PySem.W.kas_sort xs.length)).map fun p => p.toList.map fun i => xs.getD i .none) else none
/-- pairs (key, value), by the key, as they come -/
noncomputable def insK (x : D × D) : List (D × D) → Option (List (D × D))
  | [] => some [x]
  | y :: ys => match ltD x.1 y.1 with
    | some true => some (x :: y :: ys)
    | some false => (match ltD y.1 x.1 with | some true => (insK x ys).map (y :: ·) | some false => some (x :: y :: ys) | none => none)
    | none => none
noncomputable def sortK : List (D × D) → Option (List (D × D))
  | [] => some []
  | x :: xs => (sortK xs).bind (insK x)

noncomputable def roundD (x : UInt64) : Option Int := match Float64.decode x with
  | .fin s m e => some (Float64.nearestOf s m e)
  | _ => none

noncomputable def joinD (sep : List Nat) : List D → Option (List Nat)
  | [] => some []
  | [.str a] => some a
  | .str a :: r => (joinD sep r).map (a ++ sep ++ ·)
  | _ => none
/-- split at each sign c -/
noncomputable def splitAt1 (c : Nat) : List Nat → List (List Nat)
  | [] => [[]]
  | x :: xs => if x == c then [] :: splitAt1 c xs else match splitAt1 c xs with
    | w :: ws => (x :: w) :: ws
    | [] => [[x]]

noncomputable def lenD (x : D) : Option D := match x with
  | .str a => if a.length ≤ maxLen then some (.int a.length) else none
  | .lst a => if a.length ≤ maxLen then some (.int a.length) else none
  | .tup a => if a.length ≤ maxLen then some (.int a.length) else none
  | _ => none
noncomputable def one (f : D → Option D) : List D → Option D
  | [x] => f x
  | _ => none
/-- max, min: of a list | of two, three -/
noncomputable def bestD (op : CmpOp) : List D → Option D
  | [x] => (lstD x).bind (bestOf op)
  | [a, b] => bestOf op [a, b]
  | [a, b, c] => bestOf op [a, b, c]
  | _ => none
noncomputable def divmodD : List D → Option D
  | [x, y] => (intD x).bind fun a => (intD y).bind fun b => if b == 0 || !small b then none else some (.tup [.int (a.fdiv b), .int (a.fmod b)])
  | _ => none
noncomputable def fltD : D → Option UInt64
  | .flt x => some x
  | _ => none
noncomputable def biD (b : Bi) (ds : List D) : Option D := match b with
  | .len => one lenD ds
  | .max => bestD .Gt ds
  | .min => bestD .Lt ds
  | .abs => one (fun x => (intD x).map fun a => .int (if a < 0 then -a else a)) ds
  | .round => one (fun x => (fltD x).bind fun a => (roundD a).map .int) ds
  | .sum => one (fun x => (lstD x).bind fun xs => (intsOf xs).map fun is => .int (sumInts is)) ds
  | .sorted => one (fun x => (lstD x).bind fun xs => (sortD xs).map .lst) ds
  | .tuple => one (fun x => (lstD x).bind fun xs => if xs.length ≤ maxLen then some (.tup xs) else none) ds
  | .divmod => divmodD ds
  | _ => none

noncomputable def rangeD (a b : Int) : List D := (List.range (b - a).toNat).map fun (k : Nat) => .int (a + (k : Int))

/-! the state -/
noncomputable abbrev Vars := List (Option D)
inductive Flw where
  | next | brk | cont
  | ret (d : D)

structure Dl where
  fns : Nat → List D → Option D
  muts : Nat → List D → List D → Option (D × List D)
  new : D → Option D
  srt : Bool := false
  hot : Bool := true
  key : Bool := false
  spl : Bool := false

noncomputable def setVar (vars : Vars) (i : Nat) (d : D) : Option Vars := if i < vars.length then some (vars.set i (some d)) else none
noncomputable def setVars : Vars → List Nat → List D → Option Vars
  | vars, [], [] => some vars
  | vars, i :: is, d :: ds => (setVar vars i d).bind fun v => setVars v is ds
  | _, _, _ => none
noncomputable def asgT (t : T) (d : D) (vars : Vars) : Option Vars := match t, d with
  | .var i, d => setVar vars i d
  | .tup is, .tup ds => if is.length == ds.length then setVars vars is ds else none
  | .tup is, .lst ds => if is.length == ds.length then setVars vars is ds else none
  | _, _ => none
noncomputable def asgTs : List T → D → Vars → Option Vars
  | [], _, vars => some vars
  | t :: ts, d, vars => (asgT t d vars).bind (asgTs ts d)

noncomputable def isLst (σ : Sto) : D → Bool
  | .loc l => match σ[l]? with
    | some (some (.lst _)) => true
    | _ => false
  | _ => false
/-- a live list read as a list -/
noncomputable def res (σ : Sto) : D → Option D
  | .loc l => match σ[l]? with
    | some (some (.lst xs)) => some (.lst xs)
    | _ => none
  | d => some d
noncomputable def ress (σ : Sto) : List D → Option (List D)
  | [] => some []
  | d :: ds => (res σ d).bind fun x => (ress σ ds).map (x :: ·)
noncomputable def frz (σ : Sto) : D → Option (D × Sto)
  | .loc l => match σ[l]? with
    | some (some m) => some (m.toD, σ.set l none)
    | _ => none
  | d => some (d, σ)

noncomputable def isStrings : List Nat → List D
  | [] => []
  | c :: r => .str [c] :: isStrings r

/-- what a for walks over -/
noncomputable def itemsOf : D → Option (List D)
  | .lst xs => some xs
  | .tup xs => some xs
  | .str a => if a.all (· < 128) then some (isStrings a) else none
  | _ => none

noncomputable def enumD (k : Nat) : List D → List D
  | [] => []
  | x :: xs => .tup [.int k, x] :: enumD (k + 1) xs
noncomputable def zipD : List D → List D → List D
  | x :: xs, y :: ys => .tup [x, y] :: zipD xs ys
  | _, _ => []

/-- what comes behind a turn of a loop -/
noncomputable def aft (r : Flw × Vars × Sto) (k : Vars → Sto → Option (Flw × Vars × Sto)) : Option (Flw × Vars × Sto) := match r.1 with
  | .next => k r.2.1 r.2.2
  | .cont => k r.2.1 r.2.2
  | .brk => some (.next, r.2.1, r.2.2)
  | .ret d => some (.ret d, r.2.1, r.2.2)
noncomputable def forD (f : D → Vars → Sto → Option (Flw × Vars × Sto)) : List D → Vars → Sto → Option (Flw × Vars × Sto)
  | [], vars, σ => some (.next, vars, σ)
  | d :: ds, vars, σ => (f d vars σ).bind fun r => aft r (forD f ds)
noncomputable def whD (c : Vars → Sto → Option (Bool × Sto)) (f : Vars → Sto → Option (Flw × Vars × Sto)) : Nat → Vars → Sto → Option (Flw × Vars × Sto)
  | 0, _, _ => none
  | n + 1, vars, σ => (c vars σ).bind fun p => if p.1 then (f vars p.2).bind fun r => aft r (whD c f n) else some (.next, vars, p.2)
noncomputable def consO : Option D → List D → List D
  | some d, l => d :: l
  | none, l => l
/-- one comprehension: the element of each item, or none where a test drops it -/
noncomputable def compD (f : D → Vars → Sto → Option (Option D × Vars × Sto)) : List D → Vars → Sto → Option (List D × Sto)
  | [], _, σ => some ([], σ)
  | d :: ds, vars, σ => (f d vars σ).bind fun r => (compD f ds r.2.1 r.2.2).map fun q => (consO r.1 q.1, q.2)

noncomputable def whFuel : Nat := 1000
noncomputable def capOk (vars : Vars) (ini : List (Option Nat)) : Bool := ini.all fun o => match o with | some j => (vars[j]?.join).isSome | none => true
noncomputable def capture (vars : Vars) (ini : List (Option Nat)) : Vars := ini.map fun o => o.bind fun j => vars[j]?.join

/-- one step, then the next -/
noncomputable def seq1 {α β : Type} (f : Sto → Option (α × Sto)) (k : α → Sto → Option β) (σ : Sto) : Option β := (f σ).bind fun p => k p.1 p.2

/-- a live list: its number and items | a live instance -/
noncomputable def lstAt (σ : Sto) : D → Option (Nat × List D)
  | .loc l => (match σ[l]? with
    | some (some (.lst xs)) => some (l, xs)
    | _ => none)
  | _ => none
noncomputable def instAt (σ : Sto) : D → Option (Nat × List (Nat × D))
  | .loc l => (match σ[l]? with
    | some (some (.inst as)) => some (l, as)
    | _ => none)
  | _ => none
noncomputable def instD : D → Option (List (Nat × D))
  | .inst as => some as
  | _ => none
/-- the attributes of an instance, frozen or live -/
noncomputable def attrsOf (σ : Sto) (x : D) : Option (List (Nat × D)) := match instD x with
  | some as => some as
  | none => (instAt σ x).map (·.2)
noncomputable def isNoneD : D → Bool
  | .none => true
  | _ => false
noncomputable def rangeOf : List D → Option (Int × Int)
  | [x] => (intD x).bind fun b => if small b && decide (b.toNat ≤ maxLen) then some (0, b) else none
  | [x, y] => (intD x).bind fun a => (intD y).bind fun b => if small a && small b && decide ((b - a).toNat ≤ maxLen) then some (a, b) else none
  | _ => none

noncomputable def hotK (Δ : Dl) (d : D) (σ : Sto) : Option (D × Sto) := if isFlt d && !Δ.hot then none else some (d, σ)
noncomputable def addL (op : Operator) (x y : D) : Option (List D × List D) := match op with
  | .Add => (lstD x).bind fun xs => (lstD y).map fun ys => (xs, ys)
  | _ => none
noncomputable def binR (Δ : Dl) (op : Operator) (x y : D) (σ : Sto) : Option (D × Sto) := match addL op x y with
  | some p => if p.1.length + p.2.length ≤ maxLen then some (.loc σ.length, σ ++ [some (.lst (p.1 ++ p.2))]) else none
  | none => (binD op x y).bind fun d => hotK Δ d σ
noncomputable def binK (Δ : Dl) (op : Operator) (x y : D) (σ : Sto) : Option (D × Sto) := (res σ x).bind fun x => (res σ y).bind fun y => binR Δ op x y σ
noncomputable def repK (x y : D) (σ : Sto) : Option (D × Sto) := (intD y).bind fun i => if small i && decide (i.toNat ≤ maxLen) then some (.lst (List.replicate i.toNat x), σ) else none
noncomputable def negK (x : D) (σ : Sto) : Option (D × Sto) := (intD x).map fun i => (.int (-i), σ)
noncomputable def truK (x : D) (σ : Sto) : Option Bool := (res σ x).bind truthD
noncomputable def cmpR (op : CmpOp) (x y : D) : Option Bool := match op with
  | .In => inD x y
  | .NotIn => (inD x y).map (!·)
  | _ => if x.dep ≤ 50 then cmpD op x y else none
noncomputable def cmpK (op : CmpOp) (x y : D) (σ : Sto) : Option (D × Sto) := (res σ x).bind fun x => (res σ y).bind fun y => (cmpR op x y).map fun t => (.bool t, σ)
noncomputable def tupK (ds : List D) (σ : Sto) : Option (D × Sto) := if ds.length ≤ maxLen then some (.tup ds, σ) else none
noncomputable def lstK (ds : List D) (σ : Sto) : Option (D × Sto) := if ds.length ≤ maxLen then (if ds.length ≤ 1 then some (.loc σ.length, σ ++ [some (.lst ds)]) else some (.lst ds, σ)) else none
noncomputable def idxK (x y : D) (σ : Sto) : Option (D × Sto) := (res σ x).bind fun x => (idxD x y).map fun d => (d, σ)
noncomputable def sliK (x : D) (lo hi st : Option Int) (σ : Sto) : Option (D × Sto) := (res σ x).bind fun x => (sliD x lo hi st).map fun d => (d, σ)
noncomputable def attrK (k : Nat) (x : D) (σ : Sto) : Option (D × Sto) := (attrsOf σ x).bind fun as => (as.lookup k).map fun d => (d, σ)
noncomputable def callK (Δ : Dl) (f : Nat) (ds : List D) (σ : Sto) : Option (D × Sto) := if D.pures ds then (Δ.fns f ds).map fun d => (d, σ) else none
noncomputable def methK (Δ : Dl) (f : Nat) (x : D) (ds : List D) (σ : Sto) : Option (D × Sto) := (instD x).bind fun as => callK Δ f (.inst as :: ds) σ
noncomputable def mcallK (Δ : Dl) (f : Nat) (x : D) (ds : List D) (σ : Sto) : Option (D × Sto) := (lstAt σ x).bind fun p => if D.pures ds && D.pures p.2 then (Δ.muts f p.2 ds).bind fun q => some (q.1, σ.set p.1 (some (.lst q.2))) else none
noncomputable def newK (Δ : Dl) (x : D) (σ : Sto) : Option (D × Sto) := if x.pure then (Δ.new x).map fun d => (d, σ) else none
noncomputable def biK (b : Bi) (ds : List D) (σ : Sto) : Option (D × Sto) := (ress σ ds).bind fun ds => (biD b ds).map fun d => (d, σ)
noncomputable def appK (x y : D) (σ : Sto) : Option (D × Sto) := (lstAt σ x).bind fun p => if p.2.length < maxLen then some (.none, σ.set p.1 (some (.lst (p.2 ++ [y])))) else none
noncomputable def popK (x : D) (σ : Sto) : Option (D × Sto) := (lstAt σ x).bind fun p => if p.2.length ≤ maxLen then p.2.getLast?.map fun y => (y, σ.set p.1 (some (.lst p.2.dropLast))) else none
noncomputable def joinK (x y : D) (σ : Sto) : Option (D × Sto) := (res σ y).bind fun y => (strD x).bind fun s => (lstD y).bind fun xs => (joinD s xs).bind fun t => if t.length + xs.length + s.length ≤ maxLen then some (.str t, σ) else none
noncomputable def splK (x y : D) (σ : Sto) : Option (D × Sto) := (strD x).bind fun s => (strD y).bind fun c => match c with
  | [c] => if s.length ≤ maxLen then some (.lst ((splitAt1 c s).map .str), σ) else none
  | _ => none
noncomputable def rangeK (ds : List D) (σ : Sto) : Option (List D × Sto) := (rangeOf ds).map fun p => (rangeD p.1 p.2, σ)
noncomputable def enumK (x : D) (σ : Sto) : Option (List D × Sto) := (frz σ x).bind fun p => (lstD p.1).bind fun xs => if xs.length ≤ maxLen then some (enumD 0 xs, p.2) else none
noncomputable def zipK (x y : D) (σ : Sto) : Option (List D × Sto) := (frz σ y).bind fun q => (lstD x).bind fun xs => (lstD q.1).bind fun ys => if xs.length ≤ maxLen ∧ ys.length ≤ maxLen then some (zipD xs ys, q.2) else none
noncomputable def itK (x : D) (σ : Sto) : Option (List D × Sto) := (frz σ x).bind fun p => (itemsOf p.1).bind fun ds => if ds.length ≤ maxLen then some (ds, p.2) else none
/-- list(range(..)) -/
noncomputable def listArg (b : Bi) (es : List E) : Option E := match b with
  | .list => (match es with
    | [.bi .range es] => some (.bi .range es)
    | _ => none)
  | _ => none

mutual
noncomputable def evE (Δ : Dl) : Nat → E → Vars → Sto → Option (D × Sto)
  | 0, _, _, _ => none
  | n + 1, e, vars, σ => match e with
    | .lit d => hotK Δ d σ
    | .var i => (vars[i]?.join).map fun d => (d, σ)
    | .bin op a b => seq1 (evE Δ n a vars) (fun x => seq1 (evE Δ n b vars) (binK Δ op x)) σ
    | .rep a k => seq1 (evE Δ n a vars) (fun x => seq1 (evE Δ n k vars) (repK x)) σ
    | .neg a => seq1 (evE Δ n a vars) negK σ
    | .not _ => none
    | .both a b => seq1 (evE Δ n a vars) (fun x σ => (truK x σ).bind fun t => if t then evE Δ n b vars σ else some (x, σ)) σ
    | .either a b => seq1 (evE Δ n a vars) (fun x σ => (truK x σ).bind fun t => if t then some (x, σ) else evE Δ n b vars σ) σ
    | .cmp op a b => seq1 (evE Δ n a vars) (fun x => seq1 (evE Δ n b vars) (cmpK op x)) σ
    | .ite c a b => seq1 (trE Δ n c vars) (fun t σ => if t then evE Δ n a vars σ else evE Δ n b vars σ) σ
    | .tup es => seq1 (evEs Δ n es vars) tupK σ
    | .lst es => seq1 (evEs Δ n es vars) lstK σ
    | .idx a i => seq1 (evE Δ n a vars) (fun x => seq1 (evE Δ n i vars) (idxK x)) σ
    | .sli a lo hi st => seq1 (evE Δ n a vars) (fun x => seq1 (evO Δ n lo vars) fun lo => seq1 (evO Δ n hi vars) fun hi => seq1 (evO Δ n st vars) (sliK x lo hi)) σ
    | .attr a k => seq1 (evE Δ n a vars) (attrK k) σ
    | .call f es => seq1 (evEs Δ n es vars) (callK Δ f) σ
    | .meth f o es => seq1 (evE Δ n o vars) (fun x => seq1 (evEs Δ n es vars) (methK Δ f x)) σ
    | .mcall f o es => seq1 (evE Δ n o vars) (fun x => seq1 (evEs Δ n es vars) (mcallK Δ f x)) σ
    | .new a => seq1 (evE Δ n a vars) (newK Δ) σ
    | .bi b es => (match listArg b es with
      | some a => seq1 (itE Δ n a vars) (fun ds σ => some (.lst ds, σ)) σ
      | none => if b == .sorted && !Δ.srt then none else seq1 (evEs Δ n es vars) (biK b) σ)
    | .append o a => seq1 (evE Δ n o vars) (fun x σ => if isLst σ x then seq1 (evE Δ n a vars) (appK x) σ else none) σ
    | .pop o => seq1 (evE Δ n o vars) popK σ
    | .join o a => seq1 (evE Δ n o vars) (fun x => seq1 (evE Δ n a vars) (joinK x)) σ
    | .split o a => if !Δ.spl then none else seq1 (evE Δ n o vars) (fun x => seq1 (evE Δ n a vars) (splK x)) σ
    | .comp ini elt t it ifs => seq1 (itE Δ n it vars) (fun ds σ =>
      if capOk vars ini && decide (ds.length ≤ maxLen) then (compD (fun d vs σ => (asgT t d vs).bind fun vs => (tesE Δ n ifs vs σ).bind fun (ok, σ) => if ok then (evE Δ n elt vs σ).map fun (r, σ) => (some r, vs, σ) else some (none, vs, σ)) ds (capture vars ini) σ).map fun p => (.lst p.1, p.2) else none) σ
    | .sortKey a ini key => if !Δ.key then none else seq1 (evE Δ n a vars) (fun x σ => (res σ x).bind fun x => (lstD x).bind fun xs =>
      if !(capOk vars ini && decide (xs.length ≤ maxLen)) then none else (compD (fun d vs σ => (evE Δ n key (vs.set 0 (some d)) σ).map fun (r, σ) => (some r, vs, σ)) xs (capture vars ini) σ).bind fun p => (sortK (p.1.zip xs)).map fun r => (.lst (r.map (·.2)), p.2)) σ
noncomputable def evO (Δ : Dl) : Nat → Option E → Vars → Sto → Option (Option Int × Sto)
  | 0, _, _, _ => none
  | _ + 1, none, _, σ => some (none, σ)
  | n + 1, some e, vars, σ => seq1 (evE Δ n e vars) (fun x σ => (intD x).map fun i => (some i, σ)) σ
noncomputable def evEs (Δ : Dl) : Nat → List E → Vars → Sto → Option (List D × Sto)
  | 0, _, _, _ => none
  | _ + 1, [], _, σ => some ([], σ)
  | n + 1, e :: es, vars, σ => seq1 (evE Δ n e vars) (fun d => seq1 (evEs Δ n es vars) fun ds σ => some (d :: ds, σ)) σ
noncomputable def trE (Δ : Dl) : Nat → E → Vars → Sto → Option (Bool × Sto)
  | 0, _, _, _ => none
  | n + 1, e, vars, σ => match e with
    | .not a => seq1 (trE Δ n a vars) (fun b σ => some (!b, σ)) σ
    | .both a b => seq1 (trE Δ n a vars) (fun t σ => if t then trE Δ n b vars σ else some (false, σ)) σ
    | .either a b => seq1 (trE Δ n a vars) (fun t σ => if t then some (true, σ) else trE Δ n b vars σ) σ
    | .ite _ _ _ => none
    | e => seq1 (evE Δ n e vars) (fun x σ => (truK x σ).map fun t => (t, σ)) σ
noncomputable def tesE (Δ : Dl) : Nat → List E → Vars → Sto → Option (Bool × Sto)
  | 0, _, _, _ => none
  | _ + 1, [], _, σ => some (true, σ)
  | n + 1, e :: es, vars, σ => seq1 (trE Δ n e vars) (fun t σ => if t then tesE Δ n es vars σ else some (false, σ)) σ
noncomputable def itE (Δ : Dl) : Nat → E → Vars → Sto → Option (List D × Sto)
  | 0, _, _, _ => none
  | n + 1, e, vars, σ => match e with
    | .bi b es => (match b with
      | .range => seq1 (evEs Δ n es vars) rangeK σ
      | .enumerate => (match es with
        | [a] => seq1 (evE Δ n a vars) enumK σ
        | _ => none)
      | .zip => (match es with
        | [a, b] => seq1 (evE Δ n a vars) (fun x σ => (frz σ x).bind fun p => seq1 (evE Δ n b vars) (zipK p.1) p.2) σ
        | _ => none)
      | b => seq1 (evE Δ n (.bi b es) vars) itK σ)
    | e => seq1 (evE Δ n e vars) itK σ
end

noncomputable def setAttrK (k : Nat) (vars : Vars) (d x : D) (σ : Sto) : Option (Flw × Vars × Sto) := (instAt σ x).bind fun p => if p.2.lookup k = none ∧ p.2.length < 20 then some (.next, vars, σ.set p.1 (some (.inst (p.2 ++ [(k, d)])))) else none
noncomputable def setIdxK (vars : Vars) (d x y : D) (σ : Sto) : Option (Flw × Vars × Sto) := (lstAt σ x).bind fun p => (intD y).bind fun i => if 0 ≤ i ∧ small i ∧ i.toNat < p.2.length then some (.next, vars, σ.set p.1 (some (.lst (p.2.set i.toNat d)))) else none
mutual
noncomputable def exS (Δ : Dl) : Nat → S → Vars → Sto → Option (Flw × Vars × Sto)
  | 0, _, _, _ => none
  | n + 1, st, vars, σ => match st with
    | .asg ts e => seq1 (evE Δ n e vars) (fun d σ => (asgTs ts d vars).map fun vars => (.next, vars, σ)) σ
    | .setAttr o k e => seq1 (evE Δ n e vars) (fun d => seq1 (evE Δ n o vars) (setAttrK k vars d)) σ
    | .setIdx o i e => seq1 (evE Δ n e vars) (fun d => seq1 (evE Δ n o vars) fun x => seq1 (evE Δ n i vars) (setIdxK vars d x)) σ
    | .expr e => seq1 (evE Δ n e vars) (fun d σ => if isNoneD d then some (.next, vars, σ) else none) σ
    | .ret e => seq1 (evE Δ n e vars) (fun d σ => (frz σ d).map fun p => (.ret p.1, vars, p.2)) σ
    | .ite c a b => seq1 (trE Δ n c vars) (fun t σ => if t then exSs Δ n a vars σ else exSs Δ n b vars σ) σ
    | .wh c b => whD (fun vars σ => trE Δ n c vars σ) (fun vars σ => exSs Δ n b vars σ) whFuel vars σ
    | .for t it b => seq1 (itE Δ n it vars) (fun ds σ => forD (fun d vars σ => (asgT t d vars).bind fun vars => exSs Δ n b vars σ) ds vars σ) σ
    | .brk => some (.brk, vars, σ)
    | .cont => some (.cont, vars, σ)
noncomputable def exSs (Δ : Dl) : Nat → List S → Vars → Sto → Option (Flw × Vars × Sto)
  | 0, _, _, _ => none
  | _ + 1, [], vars, σ => some (.next, vars, σ)
  | n + 1, s :: ss, vars, σ => match exS Δ n s vars σ with
    | some (.next, vars, σ) => exSs Δ n ss vars σ
    | r => r
end

/-- a def: how many names, how many of them arguments, its body -/
structure Fn where
  nv : Nat
  np : Nat
  body : List S

noncomputable def look (σ : Sto) (l : Nat) : Option MObj := σ[l]?.join
noncomputable def startVars (f : Fn) (args : List D) : Vars := args.map some ++ List.replicate (f.nv - f.np) none
/-- how a body ends: with a value | a value or none | none -/
noncomputable def endR : Option (Flw × Vars × Sto) → Option D
  | some (.ret d, _, _) => some d
  | _ => none
noncomputable def endM : Option (Flw × Vars × Sto) → Option (D × Sto)
  | some (.ret d, _, σ) => some (d, σ)
  | some (.next, _, σ) => some (.none, σ)
  | _ => none
noncomputable def endI : Option (Flw × Vars × Sto) → Option Sto
  | some (.next, _, σ) => some σ
  | _ => none
noncomputable def lookL (σ : Sto) : Option (List D) := match look σ 0 with
  | some (.lst ys) => some ys
  | _ => none
noncomputable def lookI (σ : Sto) : Option (List (Nat × D)) := match look σ 0 with
  | some (.inst as) => some as
  | _ => none
/-- a pure def's answer -/
noncomputable def runP (Δ : Dl) (n : Nat) (f : Fn) (args : List D) : Option D :=
  if args.length == f.np && D.pures args then
    (endR (exSs Δ n f.body (startVars f args) [])).bind fun d => if d.pure then some d else none
  else none
/-- a def that turns its first argument, a list -/
noncomputable def runM (Δ : Dl) (n : Nat) (f : Fn) (xs : List D) (args : List D) : Option (D × List D) :=
  if (args.length + 1 == f.np && D.pures args) && D.pures xs then
    (endM (exSs Δ n f.body (startVars f (.loc 0 :: args)) [some (.lst xs)])).bind fun p => (lookL p.2).bind fun ys => if p.1.pure && D.pures ys then some (p.1, ys) else none
  else none
/-- an __init__ -/
noncomputable def runI (Δ : Dl) (n : Nat) (f : Fn) (a : D) : Option D :=
  if f.np == 2 && a.pure then
    (endI (exSs Δ n f.body (startVars f [.loc 0, a]) [some (.inst [])])).bind fun σ => (lookI σ).bind fun as => if D.purea as then some (.inst as) else none
  else none
end Ev
namespace Ev
example (Δ : Dl) (a b : Int) : runP Δ 30 ⟨1, 1, [.ret (.lst [.bin .Sub (.idx (.var 0) (.lit (.int 0))) (.idx (.var 0) (.lit (.int 1))), .idx (.var 0) (.lit (.int 0))])]⟩ [.lst [.int a, .int b]] = some (.lst [.int (a - b), .int a]) := rfl
end Ev
end
section
set_option maxRecDepth 100000
set_option autoImplicit false
namespace Ev
open PySem

/-! the way from the program's syntax to my own -/
structure Cc where
  fns : List Str
  muts : List Str
  meths : List Str
  cls : Str
  cattrs : List (Str × List Nat)

noncomputable def methBase : Nat := 100
noncomputable abbrev Nm := List (Str × NameKind)
noncomputable def nmIdx : Nm → Str → Option (Nat × NameKind)
  | [], _ => none
  | (y, k) :: r, x => if x == y then some (0, k) else (nmIdx r x).map fun (i, k) => (i + 1, k)
noncomputable def strIdx : List Str → Str → Option Nat
  | [], _ => none
  | y :: r, x => if x == y then some 0 else (strIdx r x).map (· + 1)
noncomputable def plainVar (x : Str) : Bool := !(x == ("__debug__" : Str)) && !(x == ("__classdict__" : Str))
noncomputable def compVar (nm : Nm) (x : Str) : Option Nat := match nmIdx nm x with
  | some (i, .local) => if plainVar x then some i else none
  | some (i, .cell) => if plainVar x then some i else none
  | some (i, .free) => if plainVar x then some i else none
  | _ => none
/-- a name that is bound here: a local one, or a cell of this very block -/
noncomputable def compTgt (nm : Nm) (x : Str) : Option Nat := match nmIdx nm x with
  | some (i, .local) => some i
  | some (i, .cell) => some i
  | _ => none
noncomputable def isGlob (nm : Nm) (x : Str) : Bool := match nmIdx nm x with
  | some (_, .globalImplicit) => !(x == ("__debug__" : Str))
  | _ => false
noncomputable def biOf (x : Str) : Option Bi :=
  if x == ("len" : Str) then some .len else if x == ("max" : Str) then some .max else if x == ("min" : Str) then some .min else if x == ("abs" : Str) then some .abs
  else if x == ("round" : Str) then some .round else if x == ("sum" : Str) then some .sum else if x == ("sorted" : Str) then some .sorted else if x == ("list" : Str) then some .list
  else if x == ("tuple" : Str) then some .tuple else if x == ("divmod" : Str) then some .divmod else if x == ("range" : Str) then some .range else if x == ("enumerate" : Str) then some .enumerate
  else if x == ("zip" : Str) then some .zip else none
noncomputable def biName : Bi → Str
  | .len => "len" | .max => "max" | .min => "min" | .abs => "abs" | .round => "round" | .sum => "sum" | .sorted => "sorted" | .list => "list" | .tuple => "tuple" | .divmod => "divmod"
  | .range => "range" | .enumerate => "enumerate" | .zip => "zip"
noncomputable def compConst : Const → Option D
  | .none => some .none
  | .bool b => some (.bool b)
  | .int i => some (.int i)
  | .float x => some (.flt x)
  | .str s => some (.str s.cps.toList)
  | _ => none
noncomputable def attrIdx (x : Str) : Option Nat := (List.range 5).find? fun k => x == attrName k
/-- not the form of super() -/
noncomputable def plainBase : Expr → Bool
  | .Call _ as _ _ => !as.isEmpty
  | _ => true
noncomputable def compT (nm : Nm) : Expr → Option T
  | .Name x _ => (compTgt nm x).map .var
  | .Tuple es _ _ => (es.mapM fun (e : Expr) => match e with | .Name x _ => compTgt nm x | _ => none).map .tup
  | _ => none
/-- an iterator that hands out its own tuple: at once unpacked -/
noncomputable def itOk (it : E) (t : T) : Bool := match it, t with
  | .bi .enumerate _, .tup _ => true
  | .bi .enumerate _, _ => false
  | .bi .zip _, .tup _ => true
  | .bi .zip _, _ => false
  | _, _ => true
/-- the names of a comprehension -/
noncomputable def scopeOk (sc : Scope) : Bool := sc.kind == .function && decide ((sc.names.map (·.1)).Nodup) && sc.names.all (fun x => x.2 != .globalExplicit)
/-- no tuple of constant expressions -/
noncomputable def asgOk : Expr → Bool
  | .Tuple vs _ _ => vs.all (foldedForSure 8) || !(vs.all (constantsAlone 8))
  | _ => true
noncomputable def iniOf (nm inner : Nm) : Option (List (Option Nat)) := inner.mapM fun (x, k) => match k with
  | .free => (match nmIdx nm x with
    | some (i, .cell) => some (some i)
    | some (i, .free) => some (some i)
    | _ => none)
  | _ => some none


/-- the kinds of tree that are met -/
noncomputable def okX : Expr → Bool
  | .Constant _ _ _ => true
  | .Name _ _ => true
  | .BoolOp _ _ _ => true
  | .BinOp _ _ _ _ => true
  | .UnaryOp _ _ _ => true
  | .IfExp _ _ _ _ => true
  | .Compare _ _ _ _ => true
  | .Tuple _ _ _ => true
  | .List _ _ => true
  | .Subscript _ _ _ => true
  | .Attribute _ _ _ => true
  | .Call _ _ _ _ => true
  | .ListComp _ _ _ _ => true
  | _ => false

/-! one tree held against one of mine -/
noncomputable def isLit (C : Cc) (nm : Nm) (d : D) : Expr → Bool
  | .Constant c _ _ => (match compConst c with | some d' => D.beq d' d | none => false)
  | .Attribute (.Name x _) y _ => isGlob nm x && x == C.cls && (match C.cattrs.lookup y, d with | some s, .str s' => s == s' | _, _ => false)
  | _ => false
noncomputable def isVar (nm : Nm) (i : Nat) : Expr → Bool
  | .Name x _ => compVar nm x == some i
  | _ => false
noncomputable def isBin (op : Operator) (f g : Expr → Bool) : Expr → Bool
  | .BinOp a o b _ => decide (o = op) && (f a && g b)
  | _ => false
noncomputable def isRep (f g : Expr → Bool) : Expr → Bool
  | .BinOp (.List [a] _) o b _ => decide (o = .Mult) && (f a && g b)
  | _ => false
noncomputable def isUn (op : UnaryOp) (f : Expr → Bool) : Expr → Bool
  | .UnaryOp o a _ => decide (o = op) && f a
  | _ => false
noncomputable def isBool (op : BoolOp) (f g : Expr → Bool) : Expr → Bool
  | .BoolOp o [a, b] _ => decide (o = op) && (f a && g b)
  | _ => false
noncomputable def isCmp (op : CmpOp) (f g : Expr → Bool) : Expr → Bool
  | .Compare a [o] [b] _ => decide (o = op) && (f a && g b)
  | _ => false
noncomputable def isIf (f g h : Expr → Bool) : Expr → Bool
  | .IfExp c a b _ => f c && (g a && h b)
  | _ => false
noncomputable def isTup (f : List Expr → Bool) : Expr → Bool
  | .Tuple es _ _ => f es
  | _ => false
noncomputable def isLst' (f : List Expr → Bool) : Expr → Bool
  | .List es _ => f es
  | _ => false
noncomputable def isIdx (f g : Expr → Bool) : Expr → Bool
  | .Subscript a i _ => f a && g i
  | _ => false
noncomputable def isSli (f : Expr → Bool) (g1 g2 g3 : Option Expr → Bool) : Expr → Bool
  | .Subscript a (.Slice l u s _) _ => f a && (g1 l && (g2 u && g3 s))
  | _ => false
noncomputable def isAttr (k : Nat) (f : Expr → Bool) : Expr → Bool
  | .Attribute a y _ => plainBase a && (attrIdx y == some k && f a)
  | _ => false
/-- a call of a method: what the object, its method's name and the arguments must be -/
noncomputable def isMeth (m : Str → Bool) (f : Expr → Bool) (g : List Expr → Bool) : Expr → Bool
  | .Call (.Attribute o y ap) args [] cp => (plainBase o && ap.endLine == cp.line) && (decide (args.length < 29) && (m y && (f o && g args)))
  | _ => false
/-- a call of a global name -/
noncomputable def isCall (nm : Nm) (p : Str → Bool) (g : List Expr → Bool) : Expr → Bool
  | .Call (.Name x _) args [] _ => isGlob nm x && (p x && g args)
  | _ => false
/-- a target held against one of mine -/
noncomputable def isT (nm : Nm) (t : T) (x : Expr) : Bool := match t with
  | .var i => (match x with | .Name y _ => compTgt nm y == some i | _ => false)
  | .tup is => (match x with | .Tuple es _ _ => isTs nm is es | _ => false)
where isTs (nm : Nm) : List Nat → List Expr → Bool
  | [], [] => true
  | i :: is, e :: es => (match e with | .Name y _ => compTgt nm y == some i | _ => false) && isTs nm is es
  | _, _ => false
noncomputable def isComp (nm : Nm) (ini : List (Option Nat)) (T : Ev.T) (fit : Expr → Bool) (fif : Nm → List Expr → Bool) (felt : Nm → Expr → Bool) (iok : Bool) : Expr → Bool
  | .ListComp elt [⟨t, it, ifs, k⟩] sc _ => (decide (k = 0) && scopeOk sc) && (iok && ((iniOf nm sc.names == some ini && isT sc.names T t) && (fit it && (fif sc.names ifs && felt sc.names elt))))
  | _ => false

mutual
noncomputable def chkE (C : Cc) : Nat → E → Nm → Expr → Bool
  | 0, _, _, _ => false
  | n + 1, e, nm, x => okX x && match e with
    | .lit d => isLit C nm d x
    | .var i => isVar nm i x
    | .bin op a b => isBin op (chkE C n a nm) (chkE C n b nm) x
    | .rep a b => isRep (chkE C n a nm) (chkE C n b nm) x
    | .neg a => isUn .USub (chkE C n a nm) x
    | .not a => isUn .Not (chkE C n a nm) x
    | .both a b => isBool .And (chkE C n a nm) (chkE C n b nm) x
    | .either a b => isBool .Or (chkE C n a nm) (chkE C n b nm) x
    | .cmp op a b => isCmp op (chkE C n a nm) (chkE C n b nm) x
    | .ite c a b => isIf (chkE C n c nm) (chkE C n a nm) (chkE C n b nm) x
    | .tup es => isTup (chkEs C n es nm) x
    | .lst es => isLst' (chkEs C n es nm) x
    | .idx a i => isIdx (chkE C n a nm) (chkE C n i nm) x
    | .sli a l u s => isSli (chkE C n a nm) (chkO C n l nm) (chkO C n u nm) (chkO C n s nm) x
    | .attr a k => isAttr k (chkE C n a nm) x
    | .call f es => isCall nm (fun y => strIdx C.fns y == some f) (chkEs C n es nm) x
    | .mcall f o es => isCall nm (fun y => strIdx C.muts y == some f) (chkEs C n (o :: es) nm) x
    | .meth f o es => isMeth (fun y => (strIdx C.meths y).map (methBase + ·) == some f) (chkE C n o nm) (chkEs C n es nm) x
    | .new a => isCall nm (fun y => y == C.cls) (chkEs C n [a] nm) x
    | .bi b es => isCall nm (fun y => y == biName b) (chkEs C n es nm) x
    | .append o a => isMeth (fun y => y == ("append" : Str)) (chkE C n o nm) (chkEs C n [a] nm) x
    | .pop o => isMeth (fun y => y == ("pop" : Str)) (chkE C n o nm) (chkEs C n [] nm) x
    | .join o a => isMeth (fun y => y == ("join" : Str)) (chkE C n o nm) (chkEs C n [a] nm) x
    | .comp ini elt t it ifs => isComp nm ini t (chkE C n it nm) (chkEs C n ifs) (chkE C n elt) (itOk it t) x
    | .split _ _ => false
    | .sortKey _ _ _ => false
noncomputable def chkEs (C : Cc) : Nat → List E → Nm → List Expr → Bool
  | 0, _, _, _ => false
  | n + 1, es, nm, xs => match es, xs with
    | [], [] => true
    | e :: es, x :: xs => chkE C n e nm x && chkEs C n es nm xs
    | _, _ => false
noncomputable def chkO (C : Cc) : Nat → Option E → Nm → Option Expr → Bool
  | 0, _, _, _ => false
  | n + 1, e, nm, x => match e, x with
    | none, none => true
    | some e, some x => chkE C n e nm x
    | _, _ => false
end
noncomputable def chkTs (nm : Nm) : List T → List Expr → Bool
  | [], [] => true
  | t :: ts, x :: xs => isT nm t x && chkTs nm ts xs
  | _, _ => false

noncomputable def isAsg (f : List Expr → Bool) (g : Expr → Bool) : Stmt → Bool
  | .Assign ts v _ => asgOk v && (f ts && g v)
  | _ => false
noncomputable def isSetAttr (k : Nat) (f g : Expr → Bool) : Stmt → Bool
  | .Assign [.Attribute o y _] v _ => attrIdx y == some k && (f o && g v)
  | _ => false
noncomputable def isSetIdx (f g h : Expr → Bool) : Stmt → Bool
  | .Assign [.Subscript o i _] v _ => f o && (g i && h v)
  | _ => false
noncomputable def isExpr (f : Expr → Bool) : Stmt → Bool
  | .Expr (.Call a b c d) _ => f (.Call a b c d)
  | _ => false
noncomputable def isRet (f : Expr → Bool) : Stmt → Bool
  | .Return (some v) _ => f v
  | _ => false
noncomputable def isIfS (f : Expr → Bool) (g h : List Stmt → Bool) : Stmt → Bool
  | .If c a b _ => f c && (g a && h b)
  | _ => false
noncomputable def isWh (f : Expr → Bool) (g : List Stmt → Bool) : Stmt → Bool
  | .While c b [] _ => f c && g b
  | _ => false
noncomputable def isFor (nm : Nm) (t : T) (f : Expr → Bool) (g : List Stmt → Bool) : Stmt → Bool
  | .For x it b [] _ => isT nm t x && (f it && g b)
  | _ => false
noncomputable def isBrk : Stmt → Bool
  | .Break _ => true
  | _ => false
noncomputable def isCont : Stmt → Bool
  | .Continue _ => true
  | _ => false
mutual
noncomputable def chkS (C : Cc) : Nat → S → Nm → Stmt → Bool
  | 0, _, _, _ => false
  | n + 1, s, nm, x => match s with
    | .asg ts e => isAsg (chkTs nm ts) (chkE C n e nm) x
    | .setAttr o k e => isSetAttr k (chkE C n o nm) (chkE C n e nm) x
    | .setIdx o i e => isSetIdx (chkE C n o nm) (chkE C n i nm) (chkE C n e nm) x
    | .expr e => isExpr (chkE C n e nm) x
    | .ret e => isRet (chkE C n e nm) x
    | .ite c a b => isIfS (chkE C n c nm) (chkSs C n a nm) (chkSs C n b nm) x
    | .wh c b => isWh (chkE C n c nm) (chkSs C n b nm) x
    | .for t it b => itOk it t && isFor nm t (chkE C n it nm) (chkSs C n b nm) x
    | .brk => isBrk x
    | .cont => isCont x
noncomputable def chkSs (C : Cc) : Nat → List S → Nm → List Stmt → Bool
  | 0, _, _, _ => false
  | n + 1, ss, nm, xs => match ss, xs with
    | [], [] => true
    | s :: ss, x :: xs => chkS C n s nm x && chkSs C n ss nm xs
    | _, _ => false
end
noncomputable def plainP (p : Arguments) : Bool := p.posonlyargs.isEmpty && (p.vararg.isNone && (p.kwonlyargs.isEmpty && (p.kw_defaults.isEmpty && (p.kwarg.isNone && p.defaults.isEmpty))))
noncomputable def isNoneV : Value → Bool
  | .none => true
  | _ => false
/-- a def's data, all that a call asks of it, and its body held against mine -/
noncomputable def fnIs (C : Cc) (fn : Fn) (fd : FuncData) : Bool :=
  (plainP fd.params && (fd.closure.isEmpty && isNoneV fd.defaults)) && ((fd.globals == mainGlobals && fd.builtins == builtinsNs) && ((!fd.scope.isGenerator && !fd.scope.isCoroutine) && (fd.scope.kind == .function &&
    (decide ((fd.scope.names.map (·.1)).Nodup) && (decide ((fd.scope.names.map (·.1)).take fd.params.args.length = fd.params.args.map (·.arg)) &&
      ((fd.scope.names.take fd.params.args.length).all (fun x => x.2 == .local || x.2 == .cell) && (fd.scope.names.all (fun x => x.2 != .free && x.2 != .globalExplicit) &&
        ((decide (fn.nv = fd.scope.names.length) && decide (fn.np = fd.params.args.length)) && (match fd.body with | .stmts b => chkSs C 200 fn.body fd.scope.names b | _ => false)))))))))
end Ev
end
section
set_option maxRecDepth 100000
set_option autoImplicit false
namespace Ev
open PySem PySem.W PySem.Calls PyProof.Rows

/-- room for n more levels -/
structure Good (n : Nat) (A : Around) : Prop where
  hh : A.handled = none
  depth : A.depth + n < recursionLimit
  units : A.units + 10 * n + 100 < cLine
theorem Good.le {n m : Nat} {A : Around} (g : Good n A) (h : m ≤ n) : Good m A := ⟨g.hh, by have := g.depth; omega, by have := g.units; omega⟩
theorem Good.in1 {n : Nat} {A : Around} (g : Good (n + 1) A) : Good n A.in1 := ⟨g.hh, by have := g.depth; show A.depth + n < _; omega, by have := g.units; show A.units + 1 + _ + _ < _; omega⟩
theorem Good.deeper {n : Nat} {A : Around} {env : Env} (g : Good (n + 1) A) : Good n (A.deeper env) := ⟨g.hh, by have := g.depth; show A.depth + 1 + n < _; omega, by have := g.units; show A.units + 3 + _ + _ < _; omega⟩
theorem Good.room {n : Nat} {A : Around} (g : Good n A) : A.depth < recursionLimit := by have := g.depth; omega
theorem Good.space {n : Nat} {A : Around} (g : Good n A) : A.units < cLine := by have := g.units; omega

structure Kp (s s' : Shared) : Prop where
  heap : ∀ b o, s.heap.get? b = some o → s'.heap.get? b = some o
  gens : s'.gens = s.gens
  os : s'.os = s.os
  toks : s.toks ≤ s'.toks
theorem Kp.rfl {s : Shared} : Kp s s := ⟨fun _ _ e => e, Eq.refl _, Eq.refl _, Nat.le_refl _⟩
theorem Kp.tok {s : Shared} : Kp s { s with toks := s.toks + 1 } := ⟨fun _ _ e => e, Eq.refl _, Eq.refl _, Nat.le_succ _⟩
theorem Kp.toks' {s : Shared} {t : Nat} (h : s.toks ≤ t) : Kp s { s with toks := t } := ⟨fun _ _ e => e, Eq.refl _, Eq.refl _, h⟩
theorem Kp.push {s : Shared} {o : Obj} : Kp s { s with heap := s.heap.push o } := ⟨fun _ _ e => Heap.get?_push_of_some _ e, Eq.refl _, Eq.refl _, Nat.le_refl _⟩
theorem Kp.trans {s s' s'' : Shared} (a : Kp s s') (b : Kp s' s'') : Kp s s'' := ⟨fun x o e => b.heap x o (a.heap x o e), b.gens.trans a.gens, b.os.trans a.os, Nat.le_trans a.toks b.toks⟩
theorem Kp.mk' {s : Shared} {h' : Heap} {tk : Nat} (h : ∀ b o, s.heap.get? b = some o → h'.get? b = some o) (ht : s.toks ≤ tk) : Kp s { s with heap := h', toks := tk } := ⟨h, Eq.refl _, Eq.refl _, ht⟩

/-- the whole state of a frame at work -/
structure W (c : Cx) (nm : Nm) (X : PMap) (env : Env) (fa : List (Option Addr)) (F : FM) (ρ : List (List Addr)) (vars : Vars) (σ : Sto) (s : Shared) : Prop where
  g : G c F X fa ρ σ s
  f : FrR c nm F X ρ env fa vars s.heap

section
variable {c : Cx} {nm : Nm} {F F' : FM} {X : PMap} {fa : List (Option Addr)} {ρ ρ' : List (List Addr)} {σ σ' : Sto} {s s' : Shared} {env : Env} {vars : Vars}

theorem W.keep (w : W c nm X env fa F ρ vars σ s) (k : Kp s s') : W c nm X env fa F ρ vars σ s' :=
  ⟨w.g.keeps k.heap k.gens k.os k.toks, w.f.to PLe.rfl (List.prefix_refl _) fun _ a o _ e => k.heap a o e⟩

theorem W.intoG (w : W c nm X env fa F ρ vars σ s) (g : G c F' X fa ρ' σ' s) (hF : PLe F F') (hρ : ρ <+: ρ') : W c nm X env fa F' ρ' vars σ' s :=
  ⟨g, w.f.to hF hρ fun _ _ _ _ e => e⟩

/-- what a value reads as, here and now -/
inductive Rd (c : Cx) (F : FM) (ρ : List (List Addr)) (h : Heap) : Value → D → Prop
  | old {v : Value} {d : D} (r : Rv c.C F ρ v d) : Rd c F ρ h v d
  | live {a : Addr} {vs : List Value} {xs : List D} (hl : h.IsList a vs.toArray) (hs : Rvs c.C F ρ vs xs) : Rd c F ρ h (.ref a) (.lst xs)

theorem Rd.inv {h : Heap} {v : Value} {d : D} (r : Rd c F ρ h v d) : Rv c.C F ρ v d ∨ ∃ a vs xs, v = .ref a ∧ d = .lst xs ∧ h.IsList a (List.toArray vs) ∧ Rvs c.C F ρ vs xs := by
  cases r with
  | old r => exact .inl r
  | live hl hs => exact .inr ⟨_, _, _, rfl, rfl, hl, hs⟩
theorem liveL {o : Option (Option MObj)} {α : Type} {f : List D → α} {x : α} (e : (match o with | some (some (.lst xs)) => some (f xs) | _ => none) = some x) : ∃ xs, o = some (some (.lst xs)) ∧ f xs = x := by
  match o, e with
  | some (some (.lst xs)), e => exact ⟨xs, rfl, Option.some.inj e⟩
theorem res_cases {d x : D} (e : Ev.res σ d = some x) : x = d ∨ ∃ l xs, d = .loc l ∧ σ[l]? = some (some (.lst xs)) ∧ x = .lst xs := by
  cases d with
  | loc l => obtain ⟨xs, h1, h2⟩ := liveL (f := D.lst) e; exact .inr ⟨l, xs, rfl, h1, h2.symm⟩
  | _ => exact .inl (Option.some.inj e).symm
theorem G.obj (g : G c F X fa ρ σ s) {v : Value} {l : Nat} {m : MObj} (r : Rv c.C F ρ v (.loc l)) (e : σ[l]? = some (some m)) : ∃ a q, v = .ref a ∧ ρ[l]? = some (a :: q) ∧ ObjR c.C F ρ s.heap (a :: q) m := by
  obtain ⟨a, q, rfl, h1⟩ := r.inv
  obtain ⟨q', h2, h3⟩ := g.objs l m e
  rw [h1] at h2; cases h2
  exact ⟨a, q, rfl, h1, h3⟩
noncomputable def ObjS (C : Addr) (F : FM) (ρ : List (List Addr)) (h : Heap) (r : List Addr) : MObj → Prop
  | .lst xs => ∃ a vs n, r = [a] ∧ h.get? a = some { cls := .type "list", data := .seq (List.toArray vs) n } ∧ Rvs C F ρ vs xs
  | .inst as => ∃ a d es n, r = [a, d] ∧ h.get? a = some (instObj C d) ∧ h.get? d = some (dictOf es n) ∧ Ra C F ρ es as
theorem ObjR.inv {C : Addr} {h : Heap} {r : List Addr} {m : MObj} (x : ObjR C F ρ h r m) : ObjS C F ρ h r m := by
  cases x with
  | lst ho hs => exact ⟨_, _, _, rfl, ho, hs⟩
  | inst ho hd hs => exact ⟨_, _, _, _, rfl, ho, hd, hs⟩
/-- a live list -/
theorem G.live {v : Value} {l : Nat} {xs : List D} (g : G c F X fa ρ σ s) (r : Rv c.C F ρ v (.loc l)) (e : σ[l]? = some (some (.lst xs))) :
    ∃ a vs n, v = .ref a ∧ ρ[l]? = some [a] ∧ s.heap.get? a = some { cls := .type "list", data := .seq (List.toArray vs) n } ∧ Rvs c.C F ρ vs xs := by
  obtain ⟨a, q, rfl, h1, h2⟩ := g.obj r e
  obtain ⟨a', vs, n, h3, h4, h5⟩ := h2.inv
  cases h3
  exact ⟨a, vs, n, rfl, h1, h4, h5⟩
theorem G.rd (g : G c F X fa ρ σ s) {v : Value} {d x : D} (r : Rv c.C F ρ v d) (e : Ev.res σ d = some x) : Rd c F ρ s.heap v x := by
  rcases res_cases e with rfl | ⟨l, xs, rfl, h1, rfl⟩
  · exact .old r
  · obtain ⟨a, vs, n, rfl, _, ho, hs⟩ := g.live r h1
    exact .live ⟨_, ho, rfl, _, rfl⟩ hs

theorem G.list (g : G c F X fa ρ σ s) {v : Value} {xs : List D} (r : Rd c F ρ s.heap v (.lst xs)) : ∃ a vs, v = .ref a ∧ s.heap.IsList a (List.toArray vs) ∧ Rvs c.C F ρ vs xs := by
  rcases r.inv with r | ⟨a, vs, xs', rfl, e, hl, hs⟩
  · obtain ⟨a, o, vs, n, rfl, ho, hc, hd, hs⟩ := r.inv
    exact ⟨a, vs, rfl, ⟨_, g.f _ _ ho, hc, _, hd⟩, hs⟩
  · cases e; exact ⟨a, vs, rfl, hl, hs⟩
theorem Rd.rv {h : Heap} {v : Value} {d : D} (r : Rd c F ρ h v d) (hn : lstD d = none) : Rv c.C F ρ v d := by
  rcases r.inv with r | ⟨a, vs, xs', _, e, _⟩
  · exact r
  · rw [e] at hn; (first | exact noneE hn | exact falseE hn | exact nomatch hn)
theorem G.tuple (g : G c F X fa ρ σ s) {v : Value} {xs : List D} (r : Rd c F ρ s.heap v (.tup xs)) : ∃ a vs, v = .ref a ∧ s.heap.IsTuple a (List.toArray vs) ∧ Rvs c.C F ρ vs xs := by
  obtain ⟨a, o, vs, n, rfl, ho, hc, hd, hs⟩ := (r.rv rfl).inv
  exact ⟨a, vs, rfl, ⟨_, g.f _ _ ho, hc, _, hd⟩, hs⟩
theorem Rd.int {h : Heap} {v : Value} {i : Int} (r : Rd c F ρ h v (.int i)) : ∃ t, v = .int i t := (r.rv rfl).inv
theorem Rd.flt {h : Heap} {v : Value} {x : UInt64} (r : Rd c F ρ h v (.flt x)) : ∃ t, v = .float x t := let ⟨t, e, _⟩ := (r.rv rfl).inv; ⟨t, e⟩
theorem Rd.str {h : Heap} {v : Value} {x : List Nat} (r : Rd c F ρ h v (.str x)) : ∃ t, v = .str ⟨x.toArray⟩ t := (r.rv rfl).inv
theorem Rd.bool {h : Heap} {v : Value} {b : Bool} (r : Rd c F ρ h v (.bool b)) : v = .bool b := (r.rv rfl).inv
theorem Rd.none {h : Heap} {v : Value} (r : Rd c F ρ h v .none) : v = .none := (r.rv rfl).inv

/-! the views -/
theorem intD_inv : ∀ {x : D} {i : Int}, intD x = some i → x = .int i := by intro x i h; cases x <;> first | exact congrArg D.int (Option.some.inj h) | (first | exact noneE h | exact falseE h | exact nomatch h)
theorem fltD_inv : ∀ {x : D} {i : UInt64}, fltD x = some i → x = .flt i := by intro x i h; cases x <;> first | exact congrArg D.flt (Option.some.inj h) | (first | exact noneE h | exact falseE h | exact nomatch h)
theorem strD_inv : ∀ {x : D} {i : List Nat}, strD x = some i → x = .str i := by intro x i h; cases x <;> first | exact congrArg D.str (Option.some.inj h) | (first | exact noneE h | exact falseE h | exact nomatch h)
theorem lstD_inv : ∀ {x : D} {i : List D}, lstD x = some i → x = .lst i := by intro x i h; cases x <;> first | exact congrArg D.lst (Option.some.inj h) | (first | exact noneE h | exact falseE h | exact nomatch h)
theorem instD_inv : ∀ {x : D} {i : List (Nat × D)}, instD x = some i → x = .inst i := by intro x i h; cases x <;> first | exact congrArg D.inst (Option.some.inj h) | (first | exact noneE h | exact falseE h | exact nomatch h)
theorem lstAt_inv {x : D} {p : Nat × List D} (h : lstAt σ x = some p) : x = .loc p.1 ∧ σ[p.1]? = some (some (.lst p.2)) := by
  cases x with
  | loc l => obtain ⟨xs, h1, h2⟩ := liveL (f := fun xs => (l, xs)) h; subst h2; exact ⟨rfl, h1⟩
  | _ => (first | exact noneE h | exact falseE h | exact nomatch h)
theorem instAt_inv {x : D} {p : Nat × List (Nat × D)} (h : instAt σ x = some p) : x = .loc p.1 ∧ σ[p.1]? = some (some (.inst p.2)) := by
  cases x with
  | loc l =>
    have h' : (match σ[l]? with | some (some (.inst as)) => some (l, as) | _ => none) = some p := h
    match hs : σ[l]?, h' with
    | some (some (.inst as)), e => cases e; exact ⟨rfl, hs⟩
  | _ => (first | exact noneE h | exact falseE h | exact nomatch h)
theorem seqE {α β : Type} {f : Sto → Option (α × Sto)} {k : α → Sto → Option β} {σ : Sto} {r : β} {P : Prop} (h : seq1 f k σ = some r) (q : ∀ x σ1, f σ = some (x, σ1) → k x σ1 = some r → P) : P :=
  bindE h fun p e1 e2 => q p.1 p.2 e1 e2

/-- what an operation hands back -/
inductive Res (c : Cx) (F : FM) (ρ : List (List Addr)) (s s' : Shared) : Value → D → Prop
  | old {v : Value} {d : D} (r : Rv c.C F ρ v d) : Res c F ρ s s' v d
  | flt {x : UInt64} {t : Tok} (h0 : 0 < s.toks) (h1 : s.toks ≤ t) (h2 : t < s'.toks) : Res c F ρ s s' (.float x t) (.flt x)
  | tup {a : Addr} {o : Obj} {vs : List Value} {n : Nat} {xs : List D} (h0 : s.heap.get? a = none) (ho : s'.heap.get? a = some o) (hc : o.cls = .type "tuple") (hd : o.data = .seq vs.toArray n) (hs : Rvs c.C F ρ vs xs) : Res c F ρ s s' (.ref a) (.tup xs)
  | lst {a : Addr} {o : Obj} {vs : List Value} {n : Nat} {xs : List D} (h0 : s.heap.get? a = none) (ho : s'.heap.get? a = some o) (hc : o.cls = .type "list") (hd : o.data = .seq vs.toArray n) (hs : Rvs c.C F ρ vs xs) : Res c F ρ s s' (.ref a) (.lst xs)

theorem W.res (w : W c nm X env fa F ρ vars σ s) (k : Kp s s') {v : Value} {d : D} (r : Res c F ρ s s' v d) :
    ∃ F', PLe F F' ∧ W c nm X env fa F' ρ vars σ s' ∧ Rv c.C F' ρ v d := by
  have w' := w.keep k
  cases r with
  | old r => exact ⟨F, PLe.rfl, w', r⟩
  | @flt x t hp h1 h2 =>
    have h0 : F.t t = none := by
      cases e : F.t t with
      | none => rfl
      | some y => exact absurd (Nat.lt_of_le_of_lt h1 (w.g.ft t y e).2) (Nat.lt_irrefl _)
    have le : PLe F { F with t := fun u => if u = t then some x else F.t u } := ⟨fun _ _ e => e, fun u y e => by
      dsimp only; split
      · rename_i q; rw [q, h0] at e; cases e
      · exact e⟩
    refine ⟨_, le, w'.intoG { f := w'.g.f, x := w'.g.x, fx := w'.g.fx, base := w'.g.base, apart := w'.g.apart, own := w'.g.own, objs := fun l m e => ?_, len := w'.g.len, gens := w'.g.gens, os := w'.g.os, tpos := w'.g.tpos, ft := fun u y e => ?_ } le (List.prefix_refl _), .flt (by simp)⟩
    · obtain ⟨r, q1, q2⟩ := w'.g.objs l m e
      exact ⟨r, q1, q2.mono le (List.prefix_refl _) fun _ _ _ h => h⟩
    · dsimp only at e; split at e
      · rename_i q; subst q
        exact ⟨Nat.lt_of_lt_of_le hp h1, h2⟩
      · exact w'.g.ft u y e
  | @tup a o vs n xs h0 ho hc hd hs =>
    obtain ⟨h1, h2, h3⟩ := w.g.fresh h0
    have le := upd_le (o := o) h1
    exact ⟨_, le, w'.intoG (w'.g.freezeAt ho h1 h2 h3) le (List.prefix_refl _), .tup upd_self hc hd (hs.mono le (List.prefix_refl _))⟩
  | @lst a o vs n xs h0 ho hc hd hs =>
    obtain ⟨h1, h2, h3⟩ := w.g.fresh h0
    have le := upd_le (o := o) h1
    exact ⟨_, le, w'.intoG (w'.g.freezeAt ho h1 h2 h3) le (List.prefix_refl _), .lst upd_self hc hd (hs.mono le (List.prefix_refl _))⟩

theorem wpAny_release {M : Model} {A : Around} {E : Value → Shared → Prop} {vs keep : List Value} {Q : Unit → Shared → Prop} (h : Q () s) : wpAny M A (release vs keep) Q E s := by
  unfold release
  have : ∀ (l : List Value), wpAny M A (release.go keep l) Q E s := by
    intro l
    induction l with
    | nil => unfold release.go; exact wpAny_pure h
    | cons x r ih =>
      cases r with
      | nil => unfold release.go; exact wpAny_pure h
      | cons y r => unfold release.go; exact wpAny_bind (wpAny_holding (wpAny_point ih))
  exact this _
theorem wpAny_operate {M : Model} {A : Around} {E : Value → Shared → Prop} {vs : List Value} {m : Sem Value} {Q : Value → Shared → Prop} (h : wpAny M A m Q E s) : wpAny M A (operate vs m) Q E s := by
  unfold operate
  exact wpAny_bind (wpAny_holding (wpAny_mono h (fun v s' h' => wpAny_bind (wpAny_release (wpAny_pure h'))) fun _ _ e => e))

variable {A : Around} {E : Value → Shared → Prop} {prog : Program} {w : World}
theorem small_bits {i : Int} (h : small i = true) : Builtin.Int.intBits i ≤ 64 := by
  unfold small at h
  have := of_decide_eq_true h
  exact intBits_le_64 (by omega) (by omega)
theorem size_of_maxLen {n : Nat} (h : n ≤ maxLen) : n ≤ sizeLine := by
  rw [sizeLine_eq]; unfold maxLen at h; omega

theorem str_append (a b : List Nat) : (⟨a.toArray⟩ : Str) ++ (⟨b.toArray⟩ : Str) = ⟨(a ++ b).toArray⟩ := by
  show Str.mk _ = _
  simp
theorem str_length (a : List Nat) : (⟨a.toArray⟩ : Str).length = a.length := by
  show (a.toArray).size = _
  simp
end
end Ev
end
section
set_option maxRecDepth 100000
set_option autoImplicit false
set_option maxHeartbeats 4000000
namespace Ev
open PySem PySem.W PySem.Calls PyProof.Rows

section
variable {c : Cx} {nm : Nm} {F F' : FM} {X : PMap} {fa : List (Option Addr)} {ρ ρ' : List (List Addr)} {σ σ' : Sto} {s s' : Shared} {env : Env} {vars : Vars}
variable {A : Around} {E : Value → Shared → Prop} {prog : Program} {w : World} {Q : Value → Shared → Prop}

theorem foldl_flat (n : Nat) (x : List Nat) (acc : Array Nat) : (List.replicate n x.toArray).foldl (· ++ ·) acc = (acc.toList ++ (List.replicate n x).flatten).toArray := by
  induction n generalizing acc with
  | zero => simp
  | succ n ih => rw [List.replicate_succ, List.foldl_cons, ih, List.replicate_succ, List.flatten_cons]; simp

theorem txt_mul (x : List Nat) (n : Int) : Txt.mul ⟨x.toArray⟩ n = ⟨((List.replicate n.toNat x).flatten).toArray⟩ := by
  unfold Txt.mul
  by_cases h : n < 1
  · rw [if_pos h, show n.toNat = 0 by omega]; rfl
  · rw [if_neg h]
    by_cases h1 : (n == 1 || (⟨x.toArray⟩ : Str).length == 0) = true
    · rw [if_pos h1]
      rcases Bool.or_eq_true_iff.mp h1 with q | q
      · have : n = 1 := by simpa using q
        subst this; simp
      · have : x = [] := by have := beq_iff_eq.mp q; rw [str_length] at this; exact List.length_eq_zero_iff.mp this
        subst this; simp
    · rw [if_neg h1]
      have : ∀ (acc : Array Nat), (List.replicate n.toNat x.toArray).foldl (· ++ ·) acc = (acc.toList ++ (List.replicate n.toNat x).flatten).toArray := foldl_flat _ _
      simp only [this]; simp

theorem noPy_small {a b : Int} (h : small b = true) : Builtin.divisionGoesByPylong a b = false := by
  have h' : b.natAbs < 2 ^ 62 := of_decide_eq_true h
  unfold Builtin.divisionGoesByPylong
  by_cases hb : b = 0
  · subst hb; simp
  · have hl : b.natAbs.log2 < 62 := (Nat.log2_lt (by omega)).mpr h'
    have : ¬ (b == 0) = true := by simpa using hb
    simp only [this, if_false]
    rw [Bool.and_eq_false_iff]; left
    apply decide_eq_false
    simp; omega
section
variable {A : Around} {E : Value → Shared → Prop} {prog : Program} {w : World} {s : Shared} {Q : Value → Shared → Prop} {op : Operator}
/-- the answer, a later token -/
noncomputable def Ret (s : Shared) (Q : Value → Shared → Prop) (z : D) : Prop := match z with
  | .int i => ∀ t u, s.toks ≤ t → Q (.int i u) { s with toks := t }
  | .str x => ∀ t u, s.toks ≤ t → Q (.str ⟨x.toArray⟩ u) { s with toks := t }
  | .flt x => 0 < s.toks → Q (.float x s.toks) { s with toks := s.toks + 1 }
  | _ => True
theorem binII_ok {a b : Int} {t u : Tok} {z : D} (e : binII op a b = some z) (hp : isFlt z = true → 0 < s.toks) (h : Ret s Q z) : wpAny (model prog w) A (binaryOp op (.int a t) (.int b u)) Q E s := by
  refine wpAny_with_toks (Nat.le_refl _) ?_
  cases op with
  | Add => cases e; exact add_int (fun ht => h _ _ ht)
  | Sub => cases e; exact sub_int (fun ht => h _ _ ht)
  | Mult =>
    obtain ⟨hs, e⟩ := iteT e
    cases e
    refine mul_int (fun ht => h _ _ ht) ?_
    rcases Bool.or_eq_true_iff.mp hs with q | q
    · exact IntMulOk.of_left (small_bits q)
    · exact IntMulOk.of_right (small_bits q)
  | FloorDiv =>
    obtain ⟨hs, e⟩ := iteF e
    cases e
    obtain ⟨h1, h2⟩ := Bool.or_eq_false_iff.mp (Bool.eq_false_iff.mpr hs)
    exact floordiv_int (ne_of_beq_false h1) (fun ht => h _ _ ht) (.inl (noPy_small (by rw [← Bool.not_not (small b), h2]; rfl)))
  | Mod =>
    obtain ⟨hs, e⟩ := iteF e
    cases e
    exact mod_int' (fun q => hs (beq_iff_eq.mpr q)) (fun ht => h _ _ ht)
  | RShift =>
    obtain ⟨hs, e⟩ := iteT e
    cases e
    exact rshift_int hs.1 (fun ht => h _ _ ht)
  | Pow =>
    obtain ⟨hs, e⟩ := iteT e
    cases e
    obtain ⟨hs1, hs2⟩ := and2 hs
    have hb := of_decide_eq_true hs2
    refine pow_int hb.1 ?_ (fun ht => h _ _ ht)
    have h1 := small_bits hs1
    have h2 := hb.2
    have : (Builtin.Int.intBits a : Int) * b ≤ 64 * 64 := Int.mul_le_mul (by exact_mod_cast h1) h2 hb.1 (by omega)
    omega
  | Div =>
    obtain ⟨hs, e⟩ := iteF e
    cases e
    obtain ⟨h1, h2⟩ := Bool.or_eq_false_iff.mp (Bool.eq_false_iff.mpr hs)
    exact AutoIntOps.truediv_2 (by rw [h1]; decide) (by rw [h2]; decide) (fun _ => h (hp rfl))
  | _ => (first | exact noneE e | exact falseE e | exact nomatch e)
theorem binFF_ok {a b : UInt64} {t u : Tok} {z : D} (e : binFF op a b = some z) (hp : isFlt z = true → 0 < s.toks) (h : Ret s Q z) : wpAny (model prog w) A (binaryOp op (.float a t) (.float b u)) Q E s := by
  refine wpAny_with_toks (Nat.le_refl _) ?_
  cases op with
  | Add => cases e; exact add_float (fun _ => h (hp rfl))
  | Sub => cases e; exact sub_float (fun _ => h (hp rfl))
  | Mult => cases e; exact mul_float (fun _ => h (hp rfl))
  | Div =>
    obtain ⟨hs, e⟩ := iteF e
    cases e; exact AutoFloatOps.truediv_1 hs (fun _ => h (hp rfl))
  | Mod =>
    obtain ⟨hs, e⟩ := iteF e
    cases e; exact AutoFloatOps.mod_1 hs (fun _ => h (hp rfl))
  | _ => (first | exact noneE e | exact falseE e | exact nomatch e)
theorem binIF_ok {a : Int} {b : UInt64} {t u : Tok} {z : D} (e : binIF op a b = some z) (hp : isFlt z = true → 0 < s.toks) (h : Ret s Q z) : wpAny (model prog w) A (binaryOp op (.int a t) (.float b u)) Q E s := by
  refine wpAny_with_toks (Nat.le_refl _) ?_
  cases op with
  | Div =>
    obtain ⟨hs, e⟩ := iteF e
    cases e
    obtain ⟨h1, h2⟩ := Bool.or_eq_false_iff.mp (Bool.eq_false_iff.mpr hs)
    rw [bitsOk, Bool.not_not] at h1
    exact AutoFloatOps.truediv_if_2 (by rw [h1]; decide) (by rw [h2]; decide) (fun _ => h (hp rfl))
  | Mult =>
    obtain ⟨hs, e⟩ := iteF e
    cases e
    rw [bitsOk, Bool.not_not] at hs
    exact AutoFloatOps.mul_if_1 hs (fun _ => h (hp rfl))
  | _ => (first | exact noneE e | exact falseE e | exact nomatch e)
theorem binSS_ok {a b : List Nat} {t u : Tok} {z : D} (e : binSS op a b = some z) (h : Ret s Q z) : wpAny (model prog w) A (binaryOp op (.str ⟨a.toArray⟩ t) (.str ⟨b.toArray⟩ u)) Q E s := by
  refine wpAny_with_toks (Nat.le_refl _) ?_
  cases op with
  | Add =>
    obtain ⟨hs, e⟩ := iteT e
    cases e
    refine SB.add (fun t' k => ?_) (by rw [str_length, str_length]; exact size_of_maxLen hs)
    rw [str_append]
    exact fun ht => h _ _ ht
  | _ => (first | exact noneE e | exact falseE e | exact nomatch e)
theorem binSI_ok {a : List Nat} {n : Int} {t u : Tok} {z : D} (e : binSI op a n = some z) (h : Ret s Q z) : wpAny (model prog w) A (binaryOp op (.str ⟨a.toArray⟩ t) (.int n u)) Q E s := by
  refine wpAny_with_toks (Nat.le_refl _) ?_
  cases op with
  | Mult =>
    obtain ⟨hs, e⟩ := iteT e
    cases e
    obtain ⟨hs1, hs2⟩ := and2 hs
    have hl := of_decide_eq_true hs2
    have hn : n.natAbs < 2 ^ 62 := of_decide_eq_true hs1
    refine SB.mul ⟨?_, fun h1 h2 => ?_, fun h1 h2 => ?_⟩ fun t' k => ?_
    · rw [Bool.or_eq_false_iff]; exact ⟨decide_eq_false (by omega), decide_eq_false (by omega)⟩
    · rw [str_length]
      have hp : 0 < n := by omega
      intro hgt
      have h3 : (a.length : Int) * n ≤ 2 ^ 20 := by
        have : ((a.length * n.toNat : Nat) : Int) ≤ 2 ^ 20 := by unfold maxLen at hl; exact_mod_cast hl
        rwa [Int.natCast_mul, Int.toNat_of_nonneg (by omega)] at this
      have h4 : (2 ^ 63 - 1 : Int) / n < a.length := hgt
      have h5 := Int.lt_mul_of_ediv_lt hp h4
      omega
    · rw [str_length]
      unfold Builtin.Str.tooLong
      unfold maxLen at hl
      first
        | exact decide_eq_false (by rw [sizeLine_eq]; omega)
        | (simp [sizeLine]; omega)
    · rw [txt_mul]; exact fun ht => h _ _ ht
  | _ => (first | exact noneE e | exact falseE e | exact nomatch e)
end
theorem binOk {op : Operator} {v1 v2 : Value} {x y z : D} (gd : Good 0 A) (r1 : Rd c F ρ s.heap v1 x) (r2 : Rd c F ρ s.heap v2 y) (e : binD op x y = some z) (hp : isFlt z = true → 0 < s.toks)
    (h : ∀ v s', Kp s s' → Res c F ρ s s' v z → Q v s') : wpAny (model prog w) A (binaryOp op v1 v2) Q E s := by
  have hr : Ret s Q z := by
    cases z with
    | int i => exact fun t u ht => h _ _ (.toks' ht) (.old (.int _ _))
    | str i => exact fun t u ht => h _ _ (.toks' ht) (.old (.str _ _))
    | flt i => exact fun h0 => h _ _ .tok (.flt h0 (Nat.le_refl _) (Nat.lt_succ_self _))
    | _ => exact trivial
  cases x with
  | int a =>
    obtain ⟨t, rfl⟩ := r1.int
    cases y with
    | int b => obtain ⟨u, rfl⟩ := r2.int; exact binII_ok (show binII op a b = some z from e) hp hr
    | flt b => obtain ⟨u, rfl⟩ := r2.flt; exact binIF_ok (show binIF op a b = some z from e) hp hr
    | _ => (first | exact noneE e | exact falseE e | exact nomatch e)
  | flt a =>
    obtain ⟨t, rfl⟩ := r1.flt
    cases y with
    | flt b => obtain ⟨u, rfl⟩ := r2.flt; exact binFF_ok (show binFF op a b = some z from e) hp hr
    | _ => (first | exact noneE e | exact falseE e | exact nomatch e)
  | str a =>
    obtain ⟨t, rfl⟩ := r1.str
    cases y with
    | str b => obtain ⟨u, rfl⟩ := r2.str; exact binSS_ok (show binSS op a b = some z from e) hr
    | int b => obtain ⟨u, rfl⟩ := r2.int; exact binSI_ok (show binSI op a b = some z from e) hr
    | _ => (first | exact noneE e | exact falseE e | exact nomatch e)
  | _ => (first | exact noneE e | exact falseE e | exact nomatch e)
end
end Ev
end
section
set_option maxRecDepth 100000
set_option autoImplicit false
set_option linter.all false
namespace Ev
open PySem PySem.W PySem.Calls PyProof.Rows PySem.SeqAt

theorem cmp_self {a : UInt64} (h : Float64.isNaN a = false) : Float64.cmp a a = some Ordering.eq := by
  unfold Float64.isNaN at h
  unfold Float64.cmp
  cases hd : Float64.decode a with
  | nan => rw [hd] at h; cases h
  | inf n => simp
  | fin n m e => simp [Float64.align]

section
variable {c : Cx} {nm : Nm} {F F' : FM} {X : PMap} {fa : List (Option Addr)} {ρ ρ' : List (List Addr)} {σ σ' : Sto} {s s' : Shared} {env : Env} {vars : Vars}
variable {A : Around} {E : Value → Shared → Prop} {prog : Program} {w : World} {Q : Value → Shared → Prop}

theorem eqNone_inv {y : D} {b : Bool} (e : eqNone y = some b) : y = .none ∧ b = true := by cases y <;> first | exact ⟨rfl, (Option.some.inj e).symm⟩ | (first | exact noneE e | exact falseE e | exact nomatch e)
theorem eqBoolD_inv {a : Bool} {y : D} {b : Bool} (e : eqBoolD a y = some b) : ∃ d, y = .bool d ∧ (a == d) = b := by cases y <;> first | exact ⟨_, rfl, Option.some.inj e⟩ | (first | exact noneE e | exact falseE e | exact nomatch e)
theorem eqInt_inv {a : Int} {y : D} {b : Bool} (e : eqInt a y = some b) : ∃ d, y = .int d ∧ (a == d) = b := by cases y <;> first | exact ⟨_, rfl, Option.some.inj e⟩ | (first | exact noneE e | exact falseE e | exact nomatch e)
theorem eqStr_inv {a : List Nat} {y : D} {b : Bool} (e : eqStr a y = some b) : ∃ d, y = .str d ∧ (a == d) = b := by cases y <;> first | exact ⟨_, rfl, Option.some.inj e⟩ | (first | exact noneE e | exact falseE e | exact nomatch e)
theorem eqFlt_inv {a : UInt64} {y : D} {b : Bool} (e : eqFlt a y = some b) : ∃ d, y = .flt d ∧ Float64.isNaN a = false ∧ Float64.isNaN d = false ∧ (Float64.cmp a d == some Ordering.eq) = b := by
  cases y with
  | flt d =>
    obtain ⟨h1, h2⟩ := iteF (show (if (Float64.isNaN a || Float64.isNaN d) = true then none else some (Float64.cmp a d == some Ordering.eq)) = some b from e)
    obtain ⟨h3, h4⟩ := Bool.or_eq_false_iff.mp (Bool.eq_false_iff.mpr h1)
    exact ⟨d, rfl, h3, h4, Option.some.inj h2⟩
  | _ => (first | exact noneE e | exact falseE e | exact nomatch e)
theorem onTup_inv {f : List D → Option Bool} {y : D} {b : Bool} (e : onTup f y = some b) : ∃ ys, y = .tup ys ∧ f ys = some b := by cases y <;> first | exact ⟨_, rfl, e⟩ | (first | exact noneE e | exact falseE e | exact nomatch e)
theorem onLst_inv {f : List D → Option Bool} {y : D} {b : Bool} (e : onLst f y = some b) : ∃ ys, y = .lst ys ∧ f ys = some b := by cases y <;> first | exact ⟨_, rfl, e⟩ | (first | exact noneE e | exact falseE e | exact nomatch e)
theorem eqTup_inv {xs : List D} {y : D} {b : Bool} (e : eqD (.tup xs) y = some b) : ∃ ys, y = .tup ys ∧ eqDs xs ys = some b := by
  rw [eqD] at e
  exact onTup_inv e
theorem eqLst_inv {xs : List D} {y : D} {b : Bool} (e : eqD (.lst xs) y = some b) : ∃ ys, y = .lst ys ∧ (if (xs.length == ys.length) = true then eqDs xs ys else some false) = some b := by
  rw [eqD] at e
  exact onLst_inv e
theorem eqDs_cons {x y : D} {xs ys : List D} {b : Bool} (e : eqDs (x :: xs) (y :: ys) = some b) : ∃ p q, eqD x y = some p ∧ eqDs xs ys = some q ∧ (p && q) = b := by
  rw [eqDs] at e
  exact bindE e fun p h1 e => mapE e fun q h2 h3 => ⟨p, q, h1, h2, h3⟩

mutual
theorem eqD_same : ∀ {x y : D} {v : Value} {b : Bool}, Rv c.C F ρ v x → Rv c.C F ρ v y → eqD x y = some b → b = true
  | .none, y, v, b, r1, r2, e => by rw [eqD] at e; exact (eqNone_inv e).2
  | .bool i, y, v, b, r1, r2, e => by
    rw [eqD] at e
    obtain ⟨d, rfl, rfl⟩ := eqBoolD_inv e
    have h := (r1.inv : v = .bool i).symm.trans (r2.inv : v = .bool d)
    cases h; exact beq_self_eq_true _
  | .int i, y, v, b, r1, r2, e => by
    rw [eqD] at e
    obtain ⟨d, rfl, rfl⟩ := eqInt_inv e
    obtain ⟨t, rfl⟩ := (r1.inv : ∃ t, v = .int i t)
    obtain ⟨u, h⟩ := (r2.inv : ∃ t, _ = Value.int d t)
    cases h; exact beq_self_eq_true _
  | .flt x, y, v, b, r1, r2, e => by
    rw [eqD] at e
    obtain ⟨d, rfl, hn, _, rfl⟩ := eqFlt_inv e
    obtain ⟨t, rfl, _⟩ := (r1.inv : ∃ t, v = .float x t ∧ _)
    obtain ⟨u, h, _⟩ := (r2.inv : ∃ t, _ = Value.float d t ∧ _)
    cases h; rw [cmp_self hn]; rfl
  | .str x, y, v, b, r1, r2, e => by
    rw [eqD] at e
    obtain ⟨d, rfl, rfl⟩ := eqStr_inv e
    obtain ⟨t, rfl⟩ := (r1.inv : ∃ t, v = .str ⟨x.toArray⟩ t)
    obtain ⟨u, h⟩ := (r2.inv : ∃ t, _ = Value.str ⟨d.toArray⟩ t)
    cases h; exact beq_self_eq_true _
  | .tup xs, y, v, b, r1, r2, e => by
    obtain ⟨ys, rfl, e2⟩ := eqTup_inv e
    obtain ⟨a, o, vs, n, rfl, h1, c1, d1, s1⟩ := r1.inv
    obtain ⟨a', o', vs', n', h, h2, c2, d2, s2⟩ := r2.inv
    cases h
    rw [h1] at h2; cases h2
    rw [d1] at d2; cases d2
    exact eqDs_same s1 s2 e2
  | .lst xs, y, v, b, r1, r2, e => by
    obtain ⟨ys, rfl, e2⟩ := eqLst_inv e
    obtain ⟨a, o, vs, n, rfl, h1, c1, d1, s1⟩ := r1.inv
    obtain ⟨a', o', vs', n', h, h2, c2, d2, s2⟩ := r2.inv
    cases h
    rw [h1] at h2; cases h2
    rw [d1] at d2; cases d2
    rw [if_pos (beq_iff_eq.mpr (s1.length.symm.trans s2.length))] at e2
    exact eqDs_same s1 s2 e2
  | .inst as, y, v, b, r1, r2, e => by rw [eqD] at e; (first | exact noneE e | exact falseE e | exact nomatch e)
  | .loc l, y, v, b, r1, r2, e => by rw [eqD] at e; (first | exact noneE e | exact falseE e | exact nomatch e)
theorem eqDs_same : ∀ {xs ys : List D} {vs : List Value} {b : Bool}, Rvs c.C F ρ vs xs → Rvs c.C F ρ vs ys → eqDs xs ys = some b → b = true
  | [], [], _, b, r1, r2, e => by rw [eqDs] at e; exact (Option.some.inj e).symm
  | [], y :: ys, vs, b, r1, r2, e => by
    obtain rfl := (r1.inv : vs = [])
    obtain ⟨v, us, h, _⟩ := r2.inv
    cases h
  | x :: xs, [], vs, b, r1, r2, e => by
    obtain rfl := (r2.inv : vs = [])
    obtain ⟨v, us, h, _⟩ := r1.inv
    cases h
  | x :: xs, y :: ys, _, b, r1, r2, e => by
    obtain ⟨v, us, rfl, h1, s1⟩ := r1.inv
    obtain ⟨v', us', h, h2, s2⟩ := r2.inv
    cases h
    obtain ⟨p, q, e1, e2, rfl⟩ := eqDs_cons e
    rw [eqD_same h1 h2 e1, eqDs_same s1 s2 e2]; rfl
end

noncomputable def pairB (xs ys : List D) (j : Nat) : Bool := (eqD (xs.getD j .none) (ys.getD j .none)).getD false
theorem pairB_s {x y : D} {xs ys : List D} : (pairB (x :: xs) (y :: ys) ∘ Nat.succ) = pairB xs ys := rfl
theorem eqDs_all : ∀ {xs ys : List D} {b : Bool}, eqDs xs ys = some b → ((List.range (min xs.length ys.length)).all (pairB xs ys) && xs.length == ys.length) = b
  | [], [], b, e => by rw [eqDs] at e; exact Option.some.inj e
  | [], _ :: _, _, e => by rw [eqDs] at e; exact Option.some.inj e
  | _ :: _, [], _, e => by rw [eqDs] at e; exact Option.some.inj e
  | x :: xs, y :: ys, b, e => by
    obtain ⟨p, q, e1, e2, rfl⟩ := eqDs_cons e
    have ih := eqDs_all e2
    have hm : min (x :: xs).length (y :: ys).length = min xs.length ys.length + 1 := Nat.succ_min_succ ..
    have h0 : pairB (x :: xs) (y :: ys) 0 = p := by show (eqD x y).getD false = p; rw [e1]; rfl
    have hl : ((x :: xs).length == (y :: ys).length) = (xs.length == ys.length) := by simp
    rw [hm, hl, List.range_succ_eq_map, List.all_cons, List.all_map, pairB_s, h0, Bool.and_assoc]
    exact congrArg (p && ·) ih
theorem eqDs_at : ∀ {xs ys : List D} {b : Bool} (j : Nat), eqDs xs ys = some b → j < xs.length → j < ys.length → ∃ x y p, xs[j]? = some x ∧ ys[j]? = some y ∧ eqD x y = some p ∧ pairB xs ys j = p
  | [], _, _, j, _, h, _ => absurd h (Nat.not_lt_zero _)
  | _ :: _, [], _, _, _, _, h => absurd h (Nat.not_lt_zero _)
  | x :: xs, y :: ys, b, 0, e, _, _ => by
    obtain ⟨p, q, e1, e2, rfl⟩ := eqDs_cons e
    exact ⟨x, y, p, rfl, rfl, e1, by show (eqD x y).getD false = p; rw [e1]; rfl⟩
  | x :: xs, y :: ys, b, j + 1, e, h, h' => by
    obtain ⟨p, q, e1, e2, rfl⟩ := eqDs_cons e
    exact eqDs_at j e2 (Nat.lt_of_succ_lt_succ h) (Nat.lt_of_succ_lt_succ h')

theorem dep_get : ∀ {xs : List D} {j : Nat} {x : D}, xs[j]? = some x → x.dep ≤ D.deps xs
  | [], j, x, e => by cases j <;> (first | exact noneE e | exact falseE e | exact nomatch e)
  | y :: ys, 0, x, e => by cases e; rw [D.deps]; exact Nat.le_max_left _ _
  | y :: ys, j + 1, x, e => by rw [D.deps]; exact Nat.le_trans (dep_get (xs := ys) (j := j) e) (Nat.le_max_right _ _)

structure AtH (c : Cx) (F : FM) (h : Heap) : Prop where
  o : ∀ a o, F.o a = some o → h.get? a = some o
  nb : NoneBooked h
  t0 : ∀ t x, F.t t = some x → 0 < t

theorem eqAt_flt {x y : UInt64} {t u : Tok} (z : AtH c F s.heap) (h1 : F.t t = some x) (h2 : F.t u = some y) (n1 : Float64.isNaN x = false) (n2 : Float64.isNaN y = false) : EqAt A s (.float x t) (.float y u) (Float64.cmp x y == some Ordering.eq) := by
  intro prog w E Q hq
  · have hn := And.intro n1 n2
    have rc : wpAny (model prog w) A (richCompare .Eq (.float x t) (.float y u) >>= fun v => truthOfDropped v) Q E s := by
      refine wpAny_bind ?_
      exact AutoFloatOps.eq_0 (wpAny_truthy_bool hq)
    have xy : x = y → (Float64.cmp x y == some Ordering.eq) = true := fun q => by subst q; rw [cmp_self hn.1]; rfl
    have tpos := z.t0 t x h1
    have upos := z.t0 u y h2
    have ht : (t == 0) = false := beq_eq_false_iff_ne.mpr (Nat.ne_of_gt tpos)
    have hu : (u == 0) = false := beq_eq_false_iff_ne.mpr (Nat.ne_of_gt upos)
    unfold eqBool
    refine wpAny_holding ?_
    refine wpAny_ite_split (fun hab => ?_) (fun hab => ?_)
    · have hab' : x = y := by have := eq_of_beq hab; injection this
      rw [xy hab'] at hq
      exact wpAny_bind (wpAny_rule (wpAny_pure hq))
    · have hab' : ¬ (x = y ∧ t = u) := fun q => hab (by rw [q.1, q.2]; exact beq_self_eq_true _)
      have htu : (t == u) = false := beq_eq_false_iff_ne.mpr fun q => hab' ⟨by subst q; rw [h1] at h2; exact Option.some.inj h2, q⟩
      show wpAny _ _ (isSame (.float x t) (.float y u) >>= _) _ _ _
      refine wpAny_bind ?_
      unfold isSame isSame.created
      simp only [ht, hu, htu, Bool.or_self, Bool.false_eq_true, if_false, pure_bind]
      by_cases hxy : x = y
      · subst hxy
        simp only [beq_self_eq_true, hn.1, Bool.not_false, Bool.and_self, Bool.not_true, Bool.false_eq_true, if_false, pure_bind]
        refine wpAny_bind (wpAny_sharingNotTold_none z.nb ?_)
        simp only [Bool.false_eq_true, if_false, pure_bind]
        refine wpAny_bind (wpAny_sharingNotTold_none z.nb ?_)
        simp only [Bool.false_eq_true, if_false, pure_bind]
        refine wpAny_bind (wpAny_rule (wpAny_bind (wpAny_askSetting ?_)))
        refine wpAny_pure ?_
        refine wpAny_ite_split (fun _ => ?_) (fun _ => rc)
        rw [xy rfl] at hq
        exact wpAny_pure hq
      · have : (x == y) = false := beq_eq_false_iff_ne.mpr hxy
        simp only [this, Bool.false_and, Bool.not_false, if_true]
        refine wpAny_pure ?_
        simp only [Bool.false_eq_true, if_false, pure_bind]
        exact rc

theorem pairs_at {vs us : List Value} {xs ys : List D} {r : Bool} {P : Value → Value → Bool → Prop} (e : eqDs xs ys = some r) (l1 : vs.length = xs.length) (l2 : us.length = ys.length)
    (he : ∀ (j : Nat) v u x y p, vs[j]? = some v → us[j]? = some u → xs[j]? = some x → ys[j]? = some y → eqD x y = some p → P v u p) (j : Nat) (q1 : j < vs.toArray.size) (q2 : j < us.toArray.size) : P vs.toArray[j] us.toArray[j] (pairB xs ys j) := by
  have q1' : j < vs.length := q1
  have q2' : j < us.length := q2
  obtain ⟨x, y, p, k1, k2, k3, k4⟩ := eqDs_at j e (l1 ▸ q1') (l2 ▸ q2')
  rw [k4]
  exact he j _ _ x y p (List.getElem?_eq_getElem q1') (List.getElem?_eq_getElem q2') k1 k2 k3
theorem rcAt_tups {a b : Addr} {vs us : List Value} {xs ys : List D} {r : Bool} (h1 : s.heap.IsTuple a vs.toArray) (h2 : s.heap.IsTuple b us.toArray) (hu : A.units < cLine) (e : eqDs xs ys = some r)
    (l1 : vs.length = xs.length) (l2 : us.length = ys.length) (he : ∀ (j : Nat) v u x y p, vs[j]? = some v → us[j]? = some u → xs[j]? = some x → ys[j]? = some y → eqD x y = some p → EqAt A.in1 s v u p) : RcAt A s (.ref a) (.ref b) r := by
  have := RcAt.tuples (e := pairB xs ys) h1 h2 hu (pairs_at (P := fun v u p => EqAt A.in1 s v u p) e l1 l2 he)
  rw [List.size_toArray, List.size_toArray, l1, l2, eqDs_all e] at this
  exact this
theorem eqLst_all {vs us : List Value} {xs ys : List D} {r : Bool} (e : (if (xs.length == ys.length) = true then eqDs xs ys else some false) = some r) :
    (xs.length = ys.length ∧ eqDs xs ys = some r ∧ ((List.range xs.length).all (pairB xs ys)) = r) ∨ (xs.length ≠ ys.length ∧ r = false) := by
  by_cases hl : xs.length = ys.length
  · rw [if_pos (beq_iff_eq.mpr hl)] at e
    have hb := eqDs_all e
    rw [← hl, Nat.min_self, beq_self_eq_true, Bool.and_true] at hb
    exact .inl ⟨hl, e, hb⟩
  · rw [if_neg (fun q => hl (beq_iff_eq.mp q))] at e
    exact .inr ⟨hl, (Option.some.inj e).symm⟩
theorem rcAt_lsts {a b : Addr} {vs us : List Value} {xs ys : List D} {r : Bool} (h1 : s.heap.IsList a vs.toArray) (h2 : s.heap.IsList b us.toArray) (hu : A.units < cLine) (e : (if (xs.length == ys.length) = true then eqDs xs ys else some false) = some r)
    (l1 : vs.length = xs.length) (l2 : us.length = ys.length) (he : ∀ (j : Nat) v u x y p, vs[j]? = some v → us[j]? = some u → xs[j]? = some x → ys[j]? = some y → eqD x y = some p → EqAt A.in1 s v u p) : RcAt A s (.ref a) (.ref b) r := by
  rcases eqLst_all (vs := vs) (us := us) e with ⟨hl, e, hb⟩ | ⟨hl, rfl⟩
  · have := RcAt.lists (e := pairB xs ys) h1 h2 (l1.trans (hl.trans l2.symm)) hu (pairs_at (P := fun v u p => EqAt A.in1 s v u p) e l1 l2 he)
    rw [List.size_toArray, l1, hb] at this
    exact this
  · exact RcAt.lists_lengths h1 h2 (bne_iff_ne.mpr fun q => hl (l1.symm.trans (Eq.trans q l2))) hu

theorem Rvs.at2 {vs : List Value} {xs : List D} {j : Nat} {v : Value} {x : D} (h : Rvs c.C F ρ vs xs) (h1 : vs[j]? = some v) (h2 : xs[j]? = some x) : Rv c.C F ρ v x := by
  obtain ⟨v', e, r⟩ := h.get h2
  rw [h1] at e; cases e; exact r

theorem str_beq' (p q : List Nat) : ((⟨p.toArray⟩ : Str) == ⟨q.toArray⟩) = (p == q) := by
  by_cases hpq : p = q
  · subst hpq; rw [beq_self_eq_true, beq_self_eq_true]
  · rw [beq_eq_false_iff_ne.mpr hpq, beq_eq_false_iff_ne]; intro h; apply hpq; simpa using h
theorem eqAt_scal {x y : D} {v u : Value} {b : Bool} (A : Around) (hs : seqD x = none) (z : AtH c F s.heap) (r1 : Rv c.C F ρ v x) (r2 : Rv c.C F ρ u y) (e : eqD x y = some b) : EqAt A s v u b := by
  cases x with
  | none =>
    rw [eqD] at e
    obtain ⟨rfl, rfl⟩ := eqNone_inv e
    rw [(r1.inv : v = .none), (r2.inv : u = .none)]
    exact EqAt.same _
  | bool p =>
    rw [eqD] at e
    obtain ⟨d, rfl, rfl⟩ := eqBoolD_inv e
    rw [(r1.inv : v = .bool p), (r2.inv : u = .bool d)]
    exact EqAt.bool_bool _ _
  | int p =>
    rw [eqD] at e
    obtain ⟨d, rfl, rfl⟩ := eqInt_inv e
    obtain ⟨t, rfl⟩ := r1.inv
    obtain ⟨t', rfl⟩ := r2.inv
    exact EqAt.int_int _ _ _ _
  | flt p =>
    rw [eqD] at e
    obtain ⟨d, rfl, n1, n2, rfl⟩ := eqFlt_inv e
    obtain ⟨t, rfl, h1⟩ := r1.inv
    obtain ⟨t', rfl, h2⟩ := r2.inv
    exact eqAt_flt z h1 h2 n1 n2
  | str p =>
    rw [eqD] at e
    obtain ⟨d, rfl, rfl⟩ := eqStr_inv e
    obtain ⟨t, rfl⟩ := r1.inv
    obtain ⟨t', rfl⟩ := r2.inv
    rw [← str_beq']
    exact EqAt.str_str _ _ _ _
  | tup xs => (first | exact noneE hs | exact falseE hs | exact nomatch hs)
  | lst xs => (first | exact noneE hs | exact falseE hs | exact nomatch hs)
  | inst as => rw [eqD] at e; (first | exact noneE e | exact falseE e | exact nomatch e)
  | loc l => rw [eqD] at e; (first | exact noneE e | exact falseE e | exact nomatch e)

theorem eqAt_D : ∀ (n : Nat) {x y : D} {v u : Value} {b : Bool} (A : Around), x.dep ≤ n → AtH c F s.heap → Rv c.C F ρ v x → Rv c.C F ρ u y → eqD x y = some b → A.units + n < cLine → EqAt A s v u b := by
  intro n
  induction n with
  | zero =>
    intro x y v u b A hn z r1 r2 e hu
    cases x with
    | tup xs => rw [D.dep] at hn; exact absurd hn (Nat.not_succ_le_zero _)
    | lst xs => rw [D.dep] at hn; exact absurd hn (Nat.not_succ_le_zero _)
    | _ => exact eqAt_scal A rfl z r1 r2 e
  | succ n ih =>
    intro x y v u b A hn z r1 r2 e hu
    have hu' : A.in1.units + n < cLine := by show A.units + 1 + n < _; omega
    cases x with
    | tup xs =>
      rw [D.dep] at hn
      have e0 := e
      obtain ⟨ys, rfl, e⟩ := eqTup_inv e
      have r1' := r1
      have r2' := r2
      obtain ⟨a, o1, vs, n1, rfl, h1, c1, d1, s1⟩ := r1.inv
      obtain ⟨a', o2, us, n2, rfl, h2, c2, d2, s2⟩ := r2.inv
      by_cases haa : a = a'
      · subst haa
        rw [eqD_same r1' r2' e0]
        exact EqAt.same _
      · exact EqAt.of_refs haa (rcAt_tups ⟨_, z.o _ _ h1, c1, _, d1⟩ ⟨_, z.o _ _ h2, c2, _, d2⟩ (by omega) e s1.length s2.length fun j v u x y p k1 k2 k3 k4 k5 =>
          ih A.in1 (Nat.le_trans (dep_get k3) (Nat.le_of_succ_le_succ hn)) z (s1.at2 k1 k3) (s2.at2 k2 k4) k5 hu')
    | lst xs =>
      rw [D.dep] at hn
      have e0 := e
      obtain ⟨ys, rfl, _⟩ := eqLst_inv e
      have r1' := r1
      have r2' := r2
      obtain ⟨a, o1, vs, n1, rfl, h1, c1, d1, s1⟩ := r1.inv
      obtain ⟨a', o2, us, n2, rfl, h2, c2, d2, s2⟩ := r2.inv
      by_cases haa : a = a'
      · subst haa
        rw [eqD_same r1' r2' e0]
        exact EqAt.same _
      · exact EqAt.of_refs haa (rcAt_lsts ⟨_, z.o _ _ h1, c1, _, d1⟩ ⟨_, z.o _ _ h2, c2, _, d2⟩ (by omega) e s1.length s2.length fun j v u x y p k1 k2 k3 k4 k5 =>
          ih A.in1 (Nat.le_trans (dep_get k3) (Nat.le_of_succ_le_succ hn)) z (s1.at2 k1 k3) (s2.at2 k2 k4) k5 hu')
    | _ => exact eqAt_scal A rfl z r1 r2 e

/-- == on top, of what is read here -/
theorem rcEq {x y : D} {v u : Value} {b : Bool} {n : Nat} (g : G c F X fa ρ σ s) (z : AtH c F s.heap) (r1 : Rd c F ρ s.heap v x) (r2 : Rd c F ρ s.heap u y) (e : eqD x y = some b) (hn : x.dep ≤ n) (hu : A.units + n < cLine) : RcAt A s v u b := by
  cases x with
  | none => rw [eqD] at e; obtain ⟨rfl, rfl⟩ := eqNone_inv e; rw [r1.none, r2.none]; exact RcAt.none_none
  | bool p => rw [eqD] at e; obtain ⟨d, rfl, rfl⟩ := eqBoolD_inv e; rw [r1.bool, r2.bool]; exact RcAt.bool_bool _ _
  | int p => rw [eqD] at e; obtain ⟨d, rfl, rfl⟩ := eqInt_inv e; obtain ⟨t, rfl⟩ := r1.int; obtain ⟨t', rfl⟩ := r2.int; exact RcAt.int_int _ _ _ _
  | flt p => rw [eqD] at e; obtain ⟨d, rfl, n1, n2, rfl⟩ := eqFlt_inv e; obtain ⟨t, rfl⟩ := r1.flt; obtain ⟨t', rfl⟩ := r2.flt; intro prog w E Q hq; exact AutoFloatOps.eq_0 hq
  | str p => rw [eqD] at e; obtain ⟨d, rfl, rfl⟩ := eqStr_inv e; obtain ⟨t, rfl⟩ := r1.str; obtain ⟨t', rfl⟩ := r2.str; rw [← str_beq']; exact RcAt.str_str _ _ _ _
  | tup xs =>
    obtain ⟨ys, rfl, e⟩ := eqTup_inv e
    obtain ⟨a, vs, rfl, h1, s1⟩ := g.tuple r1
    obtain ⟨a', us, rfl, h2, s2⟩ := g.tuple r2
    rw [D.dep] at hn
    have hu' : A.in1.units + D.deps xs < cLine := by show A.units + 1 + _ < _; omega
    exact rcAt_tups h1 h2 (by omega) e s1.length s2.length fun j v u x y p k1 k2 k3 k4 k5 => eqAt_D (D.deps xs) A.in1 (dep_get k3) z (s1.at2 k1 k3) (s2.at2 k2 k4) k5 hu'
  | lst xs =>
    obtain ⟨ys, rfl, e⟩ := eqLst_inv e
    obtain ⟨a, vs, rfl, h1, s1⟩ := g.list r1
    obtain ⟨a', us, rfl, h2, s2⟩ := g.list r2
    rw [D.dep] at hn
    have hu' : A.in1.units + D.deps xs < cLine := by show A.units + 1 + _ < _; omega
    exact rcAt_lsts h1 h2 (by omega) e s1.length s2.length fun j v u x y p k1 k2 k3 k4 k5 => eqAt_D (D.deps xs) A.in1 (dep_get k3) z (s1.at2 k1 k3) (s2.at2 k2 k4) k5 hu'
  | inst as => rw [eqD] at e; (first | exact noneE e | exact falseE e | exact nomatch e)
  | loc l => rw [eqD] at e; (first | exact noneE e | exact falseE e | exact nomatch e)

theorem G.atH (g : G c F X fa ρ σ s) (hb : NoneBooked c.B) : AtH c F s.heap :=
  ⟨g.f, let ⟨mc, h1, h2⟩ := hb; ⟨mc, h1.keeps fun b o e => g.f b o (g.base b o e), h2⟩, fun t x e => (g.ft t x e).1⟩

noncomputable def LtAt (A : Around) (s : Shared) (y x : Value) (b : Bool) : Prop :=
  ∀ (prog : Program) (w : World) (E : Value → Shared → Prop) (Q : Value → Shared → Prop), Q (.bool b) s → wpAny (model prog w) A (richCompare .Lt y x) Q E s

theorem tuple_ltAt (l b : Addr) (items items2 : Array Value) (n n2 : Nat) (dd dd2 : Option Addr) (sl sl2 : Array (Option Value)) (P : List Value → List Value → Bool → Prop)
    (h0 : ∀ us r, P [] us r → r = decide (0 < us.length)) (h1 : ∀ v vs r, P (v :: vs) [] r → r = false) : ∀ r : Bool,
    Meets (Builtin.«tuple.__lt__» ⟨[.ref l, .ref b], []⟩)
      (fun A R s => s.heap.get? l = some { cls := .type "tuple", dict := dd, data := .seq items n, slots := sl } ∧ s.heap.get? b = some { cls := .type "tuple", dict := dd2, data := .seq items2 n2, slots := sl2 } ∧
        P items.toList items2.toList r ∧ (∀ v vs u us r, P (v :: vs) (u :: us) r → (EqAt A.in1 s v u true ∧ P vs us r) ∨ (EqAt A.in1 s v u false ∧ LtAt A.in1 s v u r)) ∧
        R (.ok (.ret (.bool r))) s) := fun r =>
  .of_wp fun prog w A R s h => by
    obtain ⟨hp, g, d, tk, os⟩ := s; obtain ⟨hl, hb, hP, he, h⟩ := h
    have f2 := AutoSeq1.sub_tuple_tuple
    wp_walk using wpAny_loadPart' hl, wpAny_loadPart' hb, wpAny_forIn_list _ (fun rest b s' => b.1 = none ∧ s' = ⟨hp, g, d, tk, os⟩ ∧ ∃ vs us, rest = vs.zip us ∧ items.size + us.length = items2.size + vs.length ∧ P vs us r) _
    case turn =>
      rintro ⟨y, x⟩ rest b s' ⟨hb', rfl, vs, us, hz, hs, hQ⟩
      cases vs with
      | nil => simp at hz
      | cons v vs =>
        cases us with
        | nil => simp at hz
        | cons u us =>
          simp only [List.zip_cons_cons, List.cons.injEq, Prod.mk.injEq] at hz
          obtain ⟨⟨rfl, rfl⟩, rfl⟩ := hz
          rcases he _ _ _ _ _ hQ with ⟨q1, q2⟩ | ⟨q1, q2⟩
          · refine wpAny_bind (q1 prog w _ _ ?_)
            wp_walk
            exact ⟨rfl, rfl, vs, us, rfl, by simp at hs; omega, q2⟩
          · refine wpAny_bind (q1 prog w _ _ ?_)
            simp only [Bool.not_false, if_true]
            refine wpAny_bind (wpAny_rule (wpAny_bind (q2 prog w _ _ ?_)))
            wp_walk
            exact ⟨_, rfl, h⟩
    case fin =>
      rintro ⟨b1, b2⟩ s' ⟨hb', rfl, vs, us, hz, hs, hQ⟩
      simp only at hb'
      subst hb'
      wp_walk
      refine ⟨_, rfl, ?_⟩
      have : decide (items.size < items2.size) = r := by
        cases vs with
        | nil =>
          rw [h0 us r hQ]
          simp at hs
          by_cases hlt : items.size < items2.size
          · have : 0 < us.length := by omega
            simp [hlt, this]
          · have : ¬ 0 < us.length := by omega
            simp [hlt, this]
        | cons v vs =>
          cases us with
          | nil => rw [h1 v vs r hQ]; simp at hs; simp; omega
          | cons u us => simp at hz
      simp only [Builtin.Tuple.tupleCompareSizes, this]
      exact h
    case h =>
      exact ⟨rfl, rfl, _, _, rfl, by simp [Nat.add_comm], hP⟩
end
end Ev
end
section
set_option maxRecDepth 100000
set_option autoImplicit false
set_option linter.all false
namespace Ev
open PySem PySem.W PySem.Calls PyProof.Rows PySem.SeqAt

section
variable {c : Cx} {nm : Nm} {F F' : FM} {X : PMap} {fa : List (Option Addr)} {ρ ρ' : List (List Addr)} {σ σ' : Sto} {s s' : Shared} {env : Env} {vars : Vars}
variable {A : Around} {E : Value → Shared → Prop} {prog : Program} {w : World} {Q : Value → Shared → Prop}

theorem ltAt_int (a b : Int) (t u : Tok) : LtAt A s (.int a t) (.int b u) (decide (a < b)) := fun prog w E Q h => lt_int h
theorem ltAt_flt (a b : UInt64) (t u : Tok) : LtAt A s (.float a t) (.float b u) (Float64.cmp a b == some Ordering.lt) := fun prog w E Q h => AutoFloatOps.lt_0 h

theorem ltAt_tups {a b : Addr} {vs us : List Value} {r : Bool} (h1 : s.heap.IsTuple a vs.toArray) (h2 : s.heap.IsTuple b us.toArray) (hu : A.units < cLine) (P : List Value → List Value → Bool → Prop)
    (q0 : ∀ us r, P [] us r → r = decide (0 < us.length)) (q1 : ∀ v vs r, P (v :: vs) [] r → r = false) (hP : P vs us r)
    (he : ∀ v vs u us r, P (v :: vs) (u :: us) r → (EqAt A.in1 s v u true ∧ P vs us r) ∨ (EqAt A.in1 s v u false ∧ LtAt A.in1 s v u r)) : LtAt A s (.ref a) (.ref b) r := fun prog w E Q h => by
  obtain ⟨⟨cls, dd, data, sl⟩, ho, hc, n, hd⟩ := id h1
  obtain ⟨⟨cls2, dd2, data2, sl2⟩, ho2, hc2, n2, hd2⟩ := id h2
  simp only at hc hd hc2 hd2
  subst hc hd hc2 hd2
  exact richCompare_meets_room (op := .Lt) ⟨_, ho, rfl⟩ ⟨_, ho2, rfl⟩ F.slot_tuple_lt F.entry_tuple_lt (F.args_tuple_lt_2 _ _) (tuple_ltAt a b vs.toArray us.toArray n n2 dd dd2 sl sl2 P q0 q1 r)
    ⟨ho, ho2, hP, he, show Value.bool r ≠ Value.notImplemented ∧ Q (.bool r) s from ⟨(fun x => nomatch x), h⟩⟩ hu

theorem ltInt_inv {a : Int} {y : D} {b : Bool} (e : ltInt a y = some b) : ∃ d, y = .int d ∧ decide (a < d) = b := by cases y <;> first | exact ⟨_, rfl, Option.some.inj e⟩ | (first | exact noneE e | exact falseE e | exact nomatch e)
theorem ltFlt_inv {a : UInt64} {y : D} {b : Bool} (e : ltFlt a y = some b) : ∃ d, y = .flt d ∧ (Float64.cmp a d == some Ordering.lt) = b := by
  cases y with
  | flt d => exact ⟨d, rfl, Option.some.inj (iteF (show (if (Float64.isNaN a || Float64.isNaN d) = true then none else some (Float64.cmp a d == some Ordering.lt)) = some b from e)).2⟩
  | _ => (first | exact noneE e | exact falseE e | exact nomatch e)
noncomputable def LexP (c : Cx) (F : FM) (ρ : List (List Addr)) (n : Nat) (vs us : List Value) (r : Bool) : Prop := ∃ xs ys, Rvs c.C F ρ vs xs ∧ Rvs c.C F ρ us ys ∧ ltDs xs ys = some r ∧ D.deps xs ≤ n
theorem Rvs.nil_l {xs : List D} (h : Rvs c.C F ρ [] xs) : xs = [] := by
  cases xs with
  | nil => rfl
  | cons x xs => obtain ⟨v, us, h, _⟩ := h.inv; (first | exact noneE h | exact falseE h | exact nomatch h)
theorem Rvs.cons_l {v : Value} {vs : List Value} {xs : List D} (h : Rvs c.C F ρ (v :: vs) xs) : ∃ x ys, xs = x :: ys ∧ Rv c.C F ρ v x ∧ Rvs c.C F ρ vs ys := by
  cases xs with
  | nil => have := (h.inv : v :: vs = []); (first | exact noneE this | exact falseE this | exact nomatch this)
  | cons x xs => obtain ⟨v', us, h, h1, h2⟩ := h.inv; cases h; exact ⟨x, xs, rfl, h1, h2⟩
theorem lex_nil {n : Nat} : ∀ us r, LexP c F ρ n [] us r → r = decide (0 < us.length) := by
  rintro us r ⟨xs, ys, h1, h2, h3, _⟩
  obtain rfl := h1.nil_l
  rw [h2.length]
  cases ys with
  | nil => rw [ltDs] at h3; exact (Option.some.inj h3).symm
  | cons _ _ => rw [ltDs] at h3; exact (Option.some.inj h3).symm
theorem lex_end {n : Nat} : ∀ v vs r, LexP c F ρ n (v :: vs) [] r → r = false := by
  rintro v vs r ⟨xs, ys, h1, h2, h3, _⟩
  obtain rfl := h2.nil_l
  obtain ⟨x, ys, rfl, _⟩ := h1.cons_l
  rw [ltDs] at h3; exact (Option.some.inj h3).symm

theorem ltAt_scal {x y : D} {v u : Value} {b : Bool} (A : Around) (hs : seqD x = none) (r1 : Rv c.C F ρ v x) (r2 : Rv c.C F ρ u y) (e : ltD x y = some b) : LtAt A s v u b := by
  cases x with
  | int p =>
    rw [ltD] at e
    obtain ⟨d, rfl, rfl⟩ := ltInt_inv e
    obtain ⟨t, rfl⟩ := r1.inv
    obtain ⟨t', rfl⟩ := r2.inv
    exact ltAt_int _ _ _ _
  | flt p =>
    rw [ltD] at e
    obtain ⟨d, rfl, rfl⟩ := ltFlt_inv e
    obtain ⟨t, rfl, _⟩ := r1.inv
    obtain ⟨t', rfl, _⟩ := r2.inv
    exact ltAt_flt _ _ _ _
  | tup xs => (first | exact noneE hs | exact falseE hs | exact nomatch hs)
  | lst xs => (first | exact noneE hs | exact falseE hs | exact nomatch hs)
  | _ => (first | exact noneE e | exact falseE e | exact nomatch e)
theorem ltAt_D : ∀ (n : Nat) {x y : D} {v u : Value} {b : Bool} (A : Around), x.dep ≤ n → AtH c F s.heap → Rv c.C F ρ v x → Rv c.C F ρ u y → ltD x y = some b → A.units + n < cLine → LtAt A s v u b := by
  intro n
  induction n with
  | zero =>
    intro x y v u b A hn z r1 r2 e hu
    cases x with
    | tup xs => rw [D.dep] at hn; exact absurd hn (Nat.not_succ_le_zero _)
    | lst xs => (first | exact noneE e | exact falseE e | exact nomatch e)
    | _ => exact ltAt_scal A rfl r1 r2 e
  | succ n ih =>
    intro x y v u b A hn z r1 r2 e hu
    have hu' : A.in1.units + n < cLine := by show A.units + 1 + n < _; omega
    cases x with
    | tup xs =>
      rw [D.dep] at hn
      rw [ltD] at e
      obtain ⟨ys, rfl, e⟩ := onTup_inv e
      obtain ⟨a, o1, vs, n1, rfl, h1, c1, d1, s1⟩ := r1.inv
      obtain ⟨a', o2, us, n2, rfl, h2, c2, d2, s2⟩ := r2.inv
      refine ltAt_tups ⟨_, z.o _ _ h1, c1, _, d1⟩ ⟨_, z.o _ _ h2, c2, _, d2⟩ (by omega) (LexP c F ρ n) lex_nil lex_end ⟨xs, ys, s1, s2, e, Nat.le_of_succ_le_succ hn⟩ ?_
      rintro v vs u us r ⟨xs, ys, h1, h2, h3, h4⟩
      obtain ⟨x, xs, rfl, k1, s1⟩ := h1.cons_l
      obtain ⟨y, ys, rfl, k2, s2⟩ := h2.cons_l
      rw [ltDs] at h3
      rw [D.deps] at h4
      refine bindE h3 fun p e1 h3 => ?_
      have q1 := eqAt_D n A.in1 (Nat.le_trans (Nat.le_max_left _ _) h4) z k1 k2 e1 hu'
      cases p with
      | true => exact .inl ⟨q1, xs, ys, s1, s2, h3, Nat.le_trans (Nat.le_max_right _ _) h4⟩
      | false => exact .inr ⟨q1, ih A.in1 (Nat.le_trans (Nat.le_max_left _ _) h4) z k1 k2 h3 hu'⟩
    | lst xs => (first | exact noneE e | exact falseE e | exact nomatch e)
    | _ => exact ltAt_scal A rfl r1 r2 e

theorem rcLt {x y : D} {v u : Value} {b : Bool} {n : Nat} (z : AtH c F s.heap) (r1 : Rd c F ρ s.heap v x) (r2 : Rd c F ρ s.heap u y) (e : ltD x y = some b) (hn : x.dep ≤ n) (hu : A.units + n < cLine) : LtAt A s v u b := by
  have hx : lstD x = none := by cases x <;> first | rfl | (first | exact noneE e | exact falseE e | exact nomatch e)
  have hy : lstD y = none := by
    cases y with
    | lst ys => cases x <;> first | exact nomatch e | (rw [ltD] at e; (first | exact noneE e | exact falseE e | exact nomatch e))
    | _ => rfl
  exact ltAt_D n A hn z (r1.rv hx) (r2.rv hy) e hu

theorem rcne_tups {a b : Addr} {vs us : List Value} {xs ys : List D} {r : Bool} (h1 : s.heap.IsTuple a vs.toArray) (h2 : s.heap.IsTuple b us.toArray) (hu : A.units < cLine) (e : eqDs xs ys = some r)
    (l1 : vs.length = xs.length) (l2 : us.length = ys.length) (he : ∀ (j : Nat) v u x y p, vs[j]? = some v → us[j]? = some u → xs[j]? = some x → ys[j]? = some y → eqD x y = some p → EqAt A.in1 s v u p) : RcNeAt A s (.ref a) (.ref b) (!r) := by
  have := RcNeAt.tuples (e := pairB xs ys) h1 h2 hu (pairs_at (P := fun v u p => EqAt A.in1 s v u p) e l1 l2 he)
  rw [List.size_toArray, List.size_toArray, l1, l2, eqDs_all e] at this
  exact this
theorem rcne_lsts {a b : Addr} {vs us : List Value} {xs ys : List D} {r : Bool} (h1 : s.heap.IsList a vs.toArray) (h2 : s.heap.IsList b us.toArray) (hu : A.units < cLine) (e : (if (xs.length == ys.length) = true then eqDs xs ys else some false) = some r)
    (l1 : vs.length = xs.length) (l2 : us.length = ys.length) (he : ∀ (j : Nat) v u x y p, vs[j]? = some v → us[j]? = some u → xs[j]? = some x → ys[j]? = some y → eqD x y = some p → EqAt A.in1 s v u p) : RcNeAt A s (.ref a) (.ref b) (!r) := by
  rcases eqLst_all (vs := vs) (us := us) e with ⟨hl, e, hb⟩ | ⟨hl, rfl⟩
  · have := RcNeAt.lists (e := pairB xs ys) h1 h2 (l1.trans (hl.trans l2.symm)) hu (pairs_at (P := fun v u p => EqAt A.in1 s v u p) e l1 l2 he)
    rw [List.size_toArray, l1, hb] at this
    exact this
  · exact RcNeAt.lists_lengths h1 h2 (bne_iff_ne.mpr fun q => hl (l1.symm.trans (Eq.trans q l2))) hu

theorem rcNe {x y : D} {v u : Value} {b : Bool} {n : Nat} (g : G c F X fa ρ σ s) (z : AtH c F s.heap) (r1 : Rd c F ρ s.heap v x) (r2 : Rd c F ρ s.heap u y) (e : eqD x y = some b) (hn : x.dep ≤ n) (hu : A.units + n < cLine) : RcNeAt A s v u (!b) := by
  cases x with
  | none => rw [eqD] at e; obtain ⟨rfl, rfl⟩ := eqNone_inv e; rw [r1.none, r2.none]; exact RcNeAt.none_none
  | bool p => rw [eqD] at e; obtain ⟨d, rfl, rfl⟩ := eqBoolD_inv e; rw [r1.bool, r2.bool]; exact RcNeAt.bool_bool _ _
  | int p => rw [eqD] at e; obtain ⟨d, rfl, rfl⟩ := eqInt_inv e; obtain ⟨t, rfl⟩ := r1.int; obtain ⟨t', rfl⟩ := r2.int; exact RcNeAt.int_int _ _ _ _
  | flt p => rw [eqD] at e; obtain ⟨d, rfl, n1, n2, rfl⟩ := eqFlt_inv e; obtain ⟨t, rfl⟩ := r1.flt; obtain ⟨t', rfl⟩ := r2.flt; intro prog w E Q hq; exact AutoFloatOps.ne_0 hq
  | str p => rw [eqD] at e; obtain ⟨d, rfl, rfl⟩ := eqStr_inv e; obtain ⟨t, rfl⟩ := r1.str; obtain ⟨t', rfl⟩ := r2.str; rw [← str_beq']; exact RcNeAt.str_str _ _ _ _
  | tup xs =>
    obtain ⟨ys, rfl, e⟩ := eqTup_inv e
    obtain ⟨a, vs, rfl, h1, s1⟩ := g.tuple r1
    obtain ⟨a', us, rfl, h2, s2⟩ := g.tuple r2
    rw [D.dep] at hn
    have hu' : A.in1.units + D.deps xs < cLine := by show A.units + 1 + _ < _; omega
    exact rcne_tups h1 h2 (by omega) e s1.length s2.length fun j v u x y p k1 k2 k3 k4 k5 => eqAt_D (D.deps xs) A.in1 (dep_get k3) z (s1.at2 k1 k3) (s2.at2 k2 k4) k5 hu'
  | lst xs =>
    obtain ⟨ys, rfl, e⟩ := eqLst_inv e
    obtain ⟨a, vs, rfl, h1, s1⟩ := g.list r1
    obtain ⟨a', us, rfl, h2, s2⟩ := g.list r2
    rw [D.dep] at hn
    have hu' : A.in1.units + D.deps xs < cLine := by show A.units + 1 + _ < _; omega
    exact rcne_lsts h1 h2 (by omega) e s1.length s2.length fun j v u x y p k1 k2 k3 k4 k5 => eqAt_D (D.deps xs) A.in1 (dep_get k3) z (s1.at2 k1 k3) (s2.at2 k2 k4) k5 hu'
  | inst as => rw [eqD] at e; (first | exact noneE e | exact falseE e | exact nomatch e)
  | loc l => rw [eqD] at e; (first | exact noneE e | exact falseE e | exact nomatch e)

/-- a comparison of two numbers -/
theorem numCmp2_inv {f : Int → Int → Bool} {g : UInt64 → UInt64 → Bool} {x y : D} {b : Bool} (e : numCmp2 f g x y = some b) : (∃ i j, x = .int i ∧ y = .int j ∧ f i j = b) ∨ (∃ i j, x = .flt i ∧ y = .flt j ∧ g i j = b) := by
  cases x with
  | int i => cases y <;> first | exact .inl ⟨_, _, rfl, rfl, Option.some.inj e⟩ | (first | exact noneE e | exact falseE e | exact nomatch e)
  | flt i => cases y <;> first | exact .inr ⟨_, _, rfl, rfl, Option.some.inj e⟩ | (first | exact noneE e | exact falseE e | exact nomatch e)
  | _ => (first | exact noneE e | exact falseE e | exact nomatch e)
theorem numCmp_ok {op : CmpOp} {f : Int → Int → Bool} {g : UInt64 → UInt64 → Bool} {v u : Value} {x y : D} {b : Bool} (r1 : Rd c F ρ s.heap v x) (r2 : Rd c F ρ s.heap u y) (e : numCmp2 f g x y = some b) (h : Q (.bool b) s)
    (hi : ∀ i j t t', Q (.bool (f i j)) s → wpAny (model prog w) A (compareOp op (.int i t) (.int j t')) Q E s) (hf : ∀ i j t t', Q (.bool (g i j)) s → wpAny (model prog w) A (compareOp op (.float i t) (.float j t')) Q E s) : wpAny (model prog w) A (compareOp op v u) Q E s := by
  rcases numCmp2_inv e with ⟨i, j, rfl, rfl, rfl⟩ | ⟨i, j, rfl, rfl, rfl⟩
  · obtain ⟨t, rfl⟩ := r1.int; obtain ⟨t', rfl⟩ := r2.int; exact hi _ _ _ _ h
  · obtain ⟨t, rfl⟩ := r1.flt; obtain ⟨t', rfl⟩ := r2.flt; exact hf _ _ _ _ h
theorem cmpOk {op : CmpOp} {v u : Value} {x y : D} {b : Bool} (gd : Good 0 A) (g : G c F X fa ρ σ s) (nb : NoneBooked c.B) (r1 : Rd c F ρ s.heap v x) (r2 : Rd c F ρ s.heap u y) (hd : x.dep ≤ 50) (e : cmpD op x y = some b)
    (h : Q (.bool b) s) : wpAny (model prog w) A (compareOp op v u) Q E s := by
  have z := g.atH nb
  have hu : A.units + 50 < cLine := by have := gd.units; omega
  cases op with
  | Eq => exact rcEq g z r1 r2 e hd hu prog w E Q h
  | NotEq => exact mapE e fun b' e1 e2 => by subst e2; exact rcNe g z r1 r2 e1 hd hu prog w E Q h
  | Lt => exact rcLt z r1 r2 e hd hu prog w E Q h
  | LtE => exact numCmp_ok r1 r2 e h (fun _ _ _ _ h => le_int h) (fun _ _ _ _ h => AutoFloatOps.le_0 h)
  | Gt => exact numCmp_ok r1 r2 e h (fun _ _ _ _ h => gt_int h) (fun _ _ _ _ h => AutoFloatOps.gt_0 h)
  | GtE => exact numCmp_ok r1 r2 e h (fun _ _ _ _ h => ge_int h) (fun _ _ _ _ h => AutoFloatOps.ge_0 h)
  | _ => (first | exact noneE e | exact falseE e | exact nomatch e)

theorem allBool_reads {bs : List Bool} {vs : List Value} {xs : List D} (h : Rvs c.C F ρ vs xs) : allBool xs = some bs → vs = bs.map Value.bool :=
  Rvs.ind (P := fun vs xs => ∀ bs, allBool xs = some bs → vs = bs.map Value.bool) (fun bs e => by cases e; rfl) (fun {v X vs xs} hv _ ih bs e => by
    cases X with
    | bool b =>
      have e' : (allBool xs).map (b :: ·) = some bs := e
      exact mapE e' fun r e1 e2 => by subst e2; rw [(hv.inv : v = .bool b), ih r e1]; rfl
    | _ => (first | exact noneE e | exact falseE e | exact nomatch e)) h bs
theorem reads_bools {h : Heap} : ∀ bs : List Bool, ∃ as, ReadsAll h (bs.map Value.bool) (bs.map PyData.bool) as
  | [] => ⟨_, .nil⟩
  | b :: bs => let ⟨as, r⟩ := reads_bools bs; ⟨_, .cons (Reads.bool b) r⟩

theorem bools_lay : ∀ bs : List Bool, PyData.canLayAll0 (bs.map PyData.bool) = true ∧ PyData.depthAll (bs.map PyData.bool) = 0
  | [] => ⟨rfl, rfl⟩
  | b :: bs => by simp [PyData.canLayAll0, PyData.depthAll, PyData.canLay0, PyData.depth, bools_lay bs]
theorem bools_any (b : Bool) : ∀ bs : List Bool, ((bs.map PyData.bool).any fun y => PyData.eqv y (.bool b)) = bs.contains b
  | [] => rfl
  | x :: bs => by
    simp only [List.map_cons, List.any_cons, bools_any b bs, List.contains_cons, PyData.eqv]
    cases x <;> cases b <;> rfl
theorem inOk {v u : Value} {x y : D} {b : Bool} {Q : Value → Shared → Prop} (gd : Good 0 A) (g : G c F X fa ρ σ s) (r1 : Rd c F ρ s.heap v x) (r2 : Rd c F ρ s.heap u y) (e : inD x y = some b) :
    (Q (.bool b) s → wpAny (model prog w) A (compareOp .In v u) Q E s) ∧ (Q (.bool !b) s → wpAny (model prog w) A (compareOp .NotIn v u) Q E s) := by
  obtain ⟨a, xs, rfl, rfl, e⟩ : ∃ a xs, x = .bool a ∧ y = .lst xs ∧ (allBool xs).map (·.contains a) = some b := by
    cases x with
    | bool a => cases y <;> first | exact ⟨_, _, rfl, rfl, e⟩ | (first | exact noneE e | exact falseE e | exact nomatch e)
    | _ => (first | exact noneE e | exact falseE e | exact nomatch e)
  refine mapE e fun bs e1 e2 => ?_
  subst e2
  rw [r1.bool]
  obtain ⟨l, vs, rfl, hl, hs⟩ := g.list r2
  have hv := allBool_reads hs e1
  subst hv
  obtain ⟨as, ra⟩ := reads_bools (h := s.heap) bs
  obtain ⟨o, ho, hc, n, hd⟩ := hl
  have rl : Reads s.heap (.ref l) (.list (bs.map PyData.bool)) (l :: as) := reads_list_at ho hc hd (by simpa using ra)
  have hu : A.units + 1 + min (PyData.depthAll (bs.map PyData.bool)) (PyData.depth (.bool a)) < cLine := by
    have := gd.units; rw [(bools_lay bs).2]; simp; omega
  exact ⟨fun h => in_list_reads rl (Reads.bool a) (bools_lay bs).1 rfl hu (by rw [bools_any]; exact h), fun h => notIn_list_reads rl (Reads.bool a) (bools_lay bs).1 rfl hu (by rw [bools_any]; exact h)⟩

theorem truthOk {v : Value} {x : D} {b : Bool} {Q : Bool → Shared → Prop} (g : G c F X fa ρ σ s) (r : Rd c F ρ s.heap v x) (e : truthD x = some b) (h : ∀ s', Kp s s' → Q b s') : wpAny (model prog w) A (truthy v) Q E s := by
  refine wpAny_with_toks (Nat.le_refl _) ?_
  cases x with
  | bool a => cases e; rw [r.bool]; exact wpAny_truthy_bool fun _ => h _ .rfl
  | int i => cases e; obtain ⟨t, rfl⟩ := r.int; exact PyProof.Rows.truthy_int fun _ => h _ .rfl
  | lst xs =>
    obtain ⟨hl', e⟩ := iteT e
    cases e
    obtain ⟨l, vs, rfl, hl, hs⟩ := g.list r
    have hlen := hs.length
    refine wpAny_truthy_list hl (by rw [List.size_toArray, hlen]; unfold maxLen at hl'; omega) fun ht => ?_
    have he : (vs.toArray.isEmpty) = xs.isEmpty := by
      cases vs <;> cases xs <;> first | rfl | (first | exact noneE hlen | exact falseE hlen | exact nomatch hlen)
    rw [he]
    exact h _ (.toks' ht)
  | _ => (first | exact noneE e | exact falseE e | exact nomatch e)
end
end Ev
end
section
set_option maxRecDepth 100000
set_option autoImplicit false
set_option linter.all false
namespace Ev
open PySem PySem.W PySem.Calls PyProof.Rows PySem.SeqAt

/-- the tree t, in this frame, from vars, σ hands back d and leaves σ' -/
noncomputable def EvV (c : Cx) (nm : Nm) (X : PMap) (env : Env) (fa : List (Option Addr)) (A : Around) (t : Sem Value) (vars : Vars) (σ : Sto) (d : D) (σ' : Sto) : Prop :=
  ∀ F ρ s Q Ex, W c nm X env fa F ρ vars σ s → (∀ F' ρ' v s', PLe F F' → ρ <+: ρ' → W c nm X env fa F' ρ' vars σ' s' → Rv c.C F' ρ' v d → Q v s') → wpAny (model c.prog c.w) A t Q Ex s
noncomputable def EvB (c : Cx) (nm : Nm) (X : PMap) (env : Env) (fa : List (Option Addr)) (A : Around) (t : Sem Bool) (vars : Vars) (σ : Sto) (b : Bool) (σ' : Sto) : Prop :=
  ∀ F ρ s Q Ex, W c nm X env fa F ρ vars σ s → (∀ F' ρ' s', PLe F F' → ρ <+: ρ' → W c nm X env fa F' ρ' vars σ' s' → Q b s') → wpAny (model c.prog c.w) A t Q Ex s
noncomputable def EvL (c : Cx) (nm : Nm) (X : PMap) (env : Env) (fa : List (Option Addr)) (A : Around) (t : Sem (List Value)) (vars : Vars) (σ : Sto) (ds : List D) (σ' : Sto) : Prop :=
  ∀ F ρ s Q Ex, W c nm X env fa F ρ vars σ s → (∀ F' ρ' vs s', PLe F F' → ρ <+: ρ' → W c nm X env fa F' ρ' vars σ' s' → Rvs c.C F' ρ' vs ds → Q vs s') → wpAny (model c.prog c.w) A t Q Ex s

section
variable {c : Cx} {nm : Nm} {X : PMap} {fa : List (Option Addr)} {σ σ' σ1 σ2 σ3 : Sto} {env : Env} {vars : Vars} {A : Around}

theorem EvV.of_res {t : Sem Value} {d : D} (h : ∀ F ρ s (Q : Value → Shared → Prop) (Ex : Value → Shared → Prop), W c nm X env fa F ρ vars σ s → (∀ v s', Kp s s' → Res c F ρ s s' v d → Q v s') → wpAny (model c.prog c.w) A t Q Ex s) : EvV c nm X env fa A t vars σ d σ := by
  intro F ρ s Q Ex w post
  refine h F ρ s Q Ex w fun v s' k r => ?_
  obtain ⟨F', le, w', rv⟩ := w.res k r
  exact post F' ρ v s' le (List.prefix_refl _) w' rv

theorem EvV.const {k : Const} {d : D} {n : Nat} {pos : Pos} (e : compConst k = some d) (hf : isFlt d = true → c.pos = true) : EvV c nm X env fa A (eval (.Constant k n pos) env) vars σ d σ := by
  refine EvV.of_res fun F ρ s Q Ex w h => ?_
  cases k with
  | none => cases e; exact wpAny_Constant_none (h _ _ .rfl (.old .none))
  | bool b => cases e; exact wpAny_Constant_bool (h _ _ .rfl (.old (.bool _)))
  | int i =>
    cases e
    show wpAny _ _ (mkInt _) _ _ _
    exact wpAny_mkInt (h _ _ .tok (.old (.int _ _)))
  | float x => cases e; exact PySem.wpAny_Constant_float (h _ _ .tok (.flt (w.g.tpos (hf rfl)) (Nat.le_refl _) (Nat.lt_succ_self _)))
  | str x =>
    cases e
    refine wpAny_Constant_str ?_
    have : x = ⟨x.cps.toList.toArray⟩ := by rw [Array.toArray_toList]
    rw [this]
    exact h _ _ .tok (.old (.str _ _))
  | _ => (first | exact noneE e | exact falseE e | exact nomatch e)

theorem compVar_idx {nm : Nm} {x : Str} {i : Nat} (e : compVar nm x = some i) : ∃ k, nmIdx nm x = some (i, k) ∧ (k = .local ∨ k = .cell ∨ k = .free) ∧ (x == ("__debug__" : Str)) = false ∧ (x == ("__classdict__" : Str)) = false := by
  unfold compVar at e
  cases h : nmIdx nm x with
  | none => rw [h] at e; cases e
  | some p =>
    obtain ⟨j, k⟩ := p
    rw [h] at e
    cases k <;> simp [plainVar] at e <;> obtain ⟨⟨h1, h2⟩, rfl⟩ := e <;> exact ⟨_, rfl, by simp, by simpa using h1, by simpa using h2⟩
theorem nmIdx_get : ∀ {nm : Nm} {x : Str} {i : Nat} {k : NameKind}, nmIdx nm x = some (i, k) → nm[i]? = some (x, k)
  | [], x, i, k, e => by simp [nmIdx] at e
  | (y, j) :: r, x, i, k, e => by
    unfold nmIdx at e
    split at e
    · rename_i h; cases e; rw [eq_of_beq h]; rfl
    · obtain ⟨⟨i', k'⟩, h1, h2⟩ := Option.map_eq_some_iff.mp e
      cases h2
      simpa using nmIdx_get h1
theorem nmIdx_lookup : ∀ {nm : Nm} {x : Str} {i : Nat} {k : NameKind}, nmIdx nm x = some (i, k) → nm.lookup x = some k
  | [], x, i, k, e => by simp [nmIdx] at e
  | (y, j) :: r, x, i, k, e => by
    unfold nmIdx at e
    split at e
    · rename_i h; cases e; rw [List.lookup_cons, h]
    · rename_i h
      obtain ⟨⟨i', k'⟩, h1, h2⟩ := Option.map_eq_some_iff.mp e
      cases h2
      rw [List.lookup_cons, show (x == y) = false by simpa using h]
      exact nmIdx_lookup h1

theorem EvV.var {x : Str} {i : Nat} {pos : Pos} {d : D} (e : compVar nm x = some i) (h : vars[i]?.join = some d) : EvV c nm X env fa A (eval (.Name x pos) env) vars σ d σ := by
  intro F ρ s Q Ex w post
  obtain ⟨k, h1, h2, h3, h4⟩ := compVar_idx e
  have hv : vars[i]? = some (some d) := by
    cases q : vars[i]? with
    | none => rw [q] at h; cases h
    | some o => rw [q] at h; simp at h; rw [h]
  exact w.f.load w.g (nmIdx_get h1) h2 hv h3 h4 fun v r => post F ρ v s PLe.rfl (List.prefix_refl _) w r

theorem EvV.bin {a b : Expr} {op : Operator} {pos : Pos} {x y x' y' z : D} (gd : Good 0 A) (ha : EvV c nm X env fa A (eval a env) vars σ x σ1) (hb : EvV c nm X env fa A (eval b env) vars σ1 y σ2)
    (ex : res σ2 x = some x') (ey : res σ2 y = some y') (e : binD op x' y' = some z) (hf : isFlt z = true → c.pos = true) : EvV c nm X env fa A (eval (.BinOp a op b pos) env) vars σ z σ2 := by
  intro F ρ s Q Ex w post
  show wpAny _ _ (eval a env >>= fun x => holding [x] (eval b env) >>= fun y => standAt pos >>= fun _ => operate [x, y] (binaryOp op x y)) Q Ex s
  refine wpAny_bind (ha F ρ s _ Ex w fun F1 ρ1 v1 s1 l1 p1 w1 r1 => wpAny_bind (wpAny_holding (hb F1 ρ1 s1 _ Ex w1 fun F2 ρ2 v2 s2 l2 p2 w2 r2 => ?_)))
  refine wpAny_bind (wpAny_standAt (wpAny_operate ?_))
  refine binOk gd (w2.g.rd (r1.mono l2 p2) ex) (w2.g.rd r2 ey) e (fun q => w2.g.tpos (hf q)) fun v s3 k r => ?_
  obtain ⟨F3, l3, w3, r3⟩ := w2.res k r
  exact post F3 ρ2 v s3 ((l1.trans l2).trans l3) (p1.trans p2) w3 r3

theorem list_plus {s : Shared} {prog : Program} {w : World} {E : Value → Shared → Prop} {l b : Addr} {vs ws : List Value} {Q : Value → Shared → Prop} (hl : s.heap.IsList l vs.toArray) (hb : s.heap.IsList b ws.toArray) (hsz : vs.length + ws.length ≤ sizeLine)
    (h : Q (.ref s.heap.objs.size) { s with heap := s.heap.push { cls := .type "list", data := .seq (vs ++ ws).toArray } }) : wpAny (model prog w) A (binaryOp .Add (.ref l) (.ref b)) Q E s := by
  obtain ⟨⟨c1, d1, t1, sl1⟩, o1, e1, n1, q1⟩ := id hl
  obtain ⟨⟨c2, d2, t2, sl2⟩, o2, e2, n2, q2⟩ := id hb
  dsimp only at e1 q1 e2 q2
  subst e1 q1 e2 q2
  refine concat_meets ⟨_, o1, rfl⟩ ⟨_, o2, rfl⟩ noFill_list_add seq_list_add PySem.F.slot_list_add PySem.F.entry_list_add (PySem.F.args_list_add_2 _ _) (list_addW l b vs.toArray ws.toArray n1 n2 d1 d2 sl1 sl2 (by simpa using hsz)) ⟨o1, o2, ?_⟩
  rw [show vs.toArray ++ ws.toArray = (vs ++ ws).toArray by simp]
  exact h
theorem EvV.addl {a b : Expr} {pos : Pos} {x y : D} {xs ys : List D} (ha : EvV c nm X env fa A (eval a env) vars σ x σ1) (hb : EvV c nm X env fa A (eval b env) vars σ1 y σ2)
    (ex : res σ2 x = some (.lst xs)) (ey : res σ2 y = some (.lst ys)) (e : xs.length + ys.length ≤ maxLen) : EvV c nm X env fa A (eval (.BinOp a .Add b pos) env) vars σ (.loc σ2.length) (σ2 ++ [some (.lst (xs ++ ys))]) := by
  intro F ρ s Q Ex w post
  show wpAny _ _ (eval a env >>= fun x => holding [x] (eval b env) >>= fun y => standAt pos >>= fun _ => operate [x, y] (binaryOp .Add x y)) Q Ex s
  refine wpAny_bind (ha F ρ s _ Ex w fun F1 ρ1 v1 s1 l1 p1 w1 r1 => wpAny_bind (wpAny_holding (hb F1 ρ1 s1 _ Ex w1 fun F2 ρ2 v2 s2 l2 p2 w2 r2 => ?_)))
  refine wpAny_bind (wpAny_standAt (wpAny_operate ?_))
  obtain ⟨l, vs, rfl, hl, hs⟩ := w2.g.list (w2.g.rd (r1.mono l2 p2) ex)
  obtain ⟨l', us, rfl, hl', hs'⟩ := w2.g.list (w2.g.rd r2 ey)
  refine list_plus hl hl' (by rw [hs.length, hs'.length]; exact size_of_maxLen e) ?_
  have g3 := w2.g.push_list (hs.append hs') 0
  have hlen : ρ2.length = σ2.length := w2.g.len
  refine post F2 _ _ _ (l1.trans l2) ((p1.trans p2).trans (List.prefix_append _ _)) ((w2.keep .push).intoG g3 PLe.rfl (List.prefix_append _ _)) (.loc ⟨[], ?_⟩)
  rw [List.getElem?_append_right (by omega)]; simp [hlen]

theorem EvV.neg {a : Expr} {pos : Pos} {i : Int} (ha : EvV c nm X env fa A (eval a env) vars σ (.int i) σ1) : EvV c nm X env fa A (eval (.UnaryOp .USub a pos) env) vars σ (.int (-i)) σ1 := by
  intro F ρ s Q Ex w post
  refine wpAny_UnaryOp (ha F ρ s _ Ex w fun F1 ρ1 v1 s1 l1 p1 w1 r1 => ?_)
  obtain ⟨t, rfl⟩ := r1.inv
  exact PyProof.Rows.neg_int (post F1 ρ1 _ _ l1 p1 (w1.keep .tok) (.int _ _))

theorem EvV.ofB {e : Expr} {pos : Pos} {b : Bool} (h : EvB c nm X env fa A (isTrue e env (eval e env)) vars σ b σ1) (hv : ∀ F ρ s Q Ex, W c nm X env fa F ρ vars σ s → wpAny (model c.prog c.w) A (isTrue e env (eval e env)) (fun b s' => Q (.bool (!b)) s') Ex s → wpAny (model c.prog c.w) A (eval (.UnaryOp .Not e pos) env) Q Ex s) :
    EvV c nm X env fa A (eval (.UnaryOp .Not e pos) env) vars σ (.bool !b) σ1 := by
  intro F ρ s Q Ex w post
  refine hv F ρ s Q Ex w (h F ρ s _ Ex w fun F1 ρ1 s1 l1 p1 w1 => post F1 ρ1 _ _ l1 p1 w1 (.bool _))

/-- the truth of a tree's value -/
theorem EvV.truth {t : Sem Value} {x y : D} {b : Bool} (h : EvV c nm X env fa A t vars σ x σ1) (ex : res σ1 x = some y) (e : truthD y = some b) : EvB c nm X env fa A (t >>= fun v => truthy v) vars σ b σ1 := by
  intro F ρ s Q Ex w post
  refine wpAny_bind (h F ρ s _ Ex w fun F1 ρ1 v1 s1 l1 p1 w1 r1 => ?_)
  exact truthOk w1.g (w1.g.rd r1 ex) e fun s2 k => post F1 ρ1 s2 l1 p1 (w1.keep k)

theorem EvV.cmp {a b : Expr} {op : CmpOp} {pos : Pos} {x y x' y' : D} {r : Bool} (gd : Good 0 A) (nb : NoneBooked c.B) (ha : EvV c nm X env fa A (eval a env) vars σ x σ1) (hb : EvV c nm X env fa A (eval b env) vars σ1 y σ2)
    (ex : res σ2 x = some x') (ey : res σ2 y = some y') (h : ∀ F ρ s v u Q Ex, W c nm X env fa F ρ vars σ2 s → Rd c F ρ s.heap v x' → Rd c F ρ s.heap u y' → Q (.bool r) s → wpAny (model c.prog c.w) A (compareOp op v u) Q Ex s)
    (hm : ∀ t : Sem Value, markedEach [op] [b] [t] = [t]) : EvV c nm X env fa A (eval (.Compare a [op] [b] pos) env) vars σ (.bool r) σ2 ∧ EvB c nm X env fa A (testChain pos |> fun _ => isTrue (.Compare a [op] [b] pos) env (eval (.Compare a [op] [b] pos) env)) vars σ r σ2 := by
  constructor
  · intro F ρ s Q Ex w post
    show wpAny _ _ (eval a env >>= fun x => compareChain pos x [op] (markedEach [op] [b] [eval b env])) Q Ex s
    rw [hm]
    refine wpAny_bind (ha F ρ s _ Ex w fun F1 ρ1 v1 s1 l1 p1 w1 r1 => ?_)
    unfold compareChain
    refine wpAny_bind (wpAny_holding (hb F1 ρ1 s1 _ Ex w1 fun F2 ρ2 v2 s2 l2 p2 w2 r2 => wpAny_bind (wpAny_standAt (wpAny_operate ?_))))
    exact h F2 ρ2 s2 v1 v2 _ _ w2 (w2.g.rd (r1.mono l2 p2) ex) (w2.g.rd r2 ey) (post F2 ρ2 _ _ (l1.trans l2) (p1.trans p2) w2 (.bool _))
  · intro F ρ s Q Ex w post
    show wpAny _ _ (eval a env >>= fun x => testChain pos x [op] (markedEach [op] [b] [eval b env])) Q Ex s
    rw [hm]
    refine wpAny_bind (ha F ρ s _ Ex w fun F1 ρ1 v1 s1 l1 p1 w1 r1 => ?_)
    unfold testChain
    refine wpAny_bind (wpAny_holding (hb F1 ρ1 s1 _ Ex w1 fun F2 ρ2 v2 s2 l2 p2 w2 r2 => wpAny_bind (wpAny_standAt (wpAny_bind (wpAny_operate ?_)))))
    exact h F2 ρ2 s2 v1 v2 _ _ w2 (w2.g.rd (r1.mono l2 p2) ex) (w2.g.rd r2 ey) (wpAny_holding (wpAny_truthy_bool (post F2 ρ2 _ (l1.trans l2) (p1.trans p2) w2)))
end
end Ev
end
section
set_option maxRecDepth 100000
set_option autoImplicit false
set_option linter.all false
namespace Ev
open PySem PySem.W PySem.Calls PyProof.Rows PySem.SeqAt

section
variable {c : Cx} {nm : Nm} {X : PMap} {fa : List (Option Addr)} {σ σ' σ1 σ2 σ3 σ4 : Sto} {env : Env} {vars : Vars} {A : Around}

theorem W.newTup {F : FM} {ρ : List (List Addr)} {s : Shared} {vs : List Value} {ds : List D} (w : W c nm X env fa F ρ vars σ s) (r : Rvs c.C F ρ vs ds) :
    ∃ F', PLe F F' ∧ W c nm X env fa F' ρ vars σ { s with heap := s.heap.push { cls := .type "tuple", data := .seq vs.toArray } } ∧ Rv c.C F' ρ (.ref s.heap.objs.size) (.tup ds) :=
  w.res .push (.tup (o := { cls := .type "tuple", data := .seq vs.toArray }) (none_at_size _) (Heap.get?_push_size _ rfl) rfl rfl r)
theorem W.newLst {F : FM} {ρ : List (List Addr)} {s : Shared} {vs : List Value} {ds : List D} (w : W c nm X env fa F ρ vars σ s) (r : Rvs c.C F ρ vs ds) :
    ∃ F', PLe F F' ∧ W c nm X env fa F' ρ vars σ { s with heap := s.heap.push { cls := .type "list", data := .seq vs.toArray } } ∧ Rv c.C F' ρ (.ref s.heap.objs.size) (.lst ds) :=
  w.res .push (.lst (o := { cls := .type "list", data := .seq vs.toArray }) (none_at_size _) (Heap.get?_push_size _ rfl) rfl rfl r)
theorem list_times {s : Shared} {prog : Program} {w : World} {E : Value → Shared → Prop} {l : Addr} {v : Value} {x : Int} {u : Tok} {Q : Value → Shared → Prop} (hl : s.heap.get? l = some { cls := .type "list", data := .seq #[v] })
    (hlo : -(2 ^ 63 : Int) ≤ x) (hhi : x < 2 ^ 63) (hsz : x.toNat ≤ 2 ^ 20)
    (h : Q (.ref s.heap.objs.size) { s with heap := s.heap.push { cls := .type "list", data := .seq (List.replicate x.toNat v).toArray } }) : wpAny (model prog w) A (binaryOp .Mult (.ref l) (.int x u)) Q E s := by
  have hfit : (!Builtin.List.listFitsIndex x) = false := by simp [Builtin.List.listFitsIndex]; omega
  have hq : List.foldl (fun x1 x2 => x1 ++ x2) #[] (List.replicate (if (#[v] : Array Value).isEmpty = true then 0 else x.toNat) #[v]) = (List.replicate x.toNat v).toArray := by
    have : ∀ (n : Nat) (acc : Array Value), List.foldl (fun x1 x2 => x1 ++ x2) acc (List.replicate n #[v]) = acc ++ (List.replicate n v).toArray := by
      intro n
      induction n with
      | zero => intro acc; simp
      | succ n ih => intro acc; rw [List.replicate_succ, List.foldl_cons, ih, List.replicate_succ]; apply Array.ext'; simp
    simp [this]
  refine wpAny_binaryOp_repeat_ref (T := "list") (U := "int") (by decide) ⟨_, hl, rfl⟩ (fun s' => typeIs_int s' x u) noFill_list_mul PySem.F.fills_int_mul PySem.F.slot_int_rmul repeat_list PySem.F.slot_int_index.lookup
    (call_meets PySem.F.slot_int_rmul (typeIs_int s x u) PySem.F.entry_int_rmul (PySem.F.args_int_rmul_2 _ _) (int___rmul___int_list x u l #[v] 0)
      ⟨hl, rfl, ⟨_, hl, rfl⟩, call_meets PySem.F.slot_list_mul ⟨_, hl, rfl⟩ PySem.F.entry_list_mul (PySem.F.args_list_mul_2 _ _)
        (AutoListH.list___mul___list_int_3 l #[v] 0 x u (by simp [hfit]) (by simp; omega) (by simp [Builtin.List.listTooLong, sizeLine]; omega))
        ⟨hl, ?_⟩⟩)
  rw [hq]; exact h

theorem EvL.nil {pos : Pos} : EvL c nm X env fa A (spliced (backTo pos (starEach [] env))) vars σ [] σ := by
  intro F ρ s Q Ex w post
  exact spliced_nil (post F ρ [] s PLe.rfl (List.prefix_refl _) w .nil)
theorem EvL.cons {e : Expr} {es : List Expr} {pos : Pos} {d : D} {ds : List D} (hs : starEach (e :: es) env = (false, eval e env) :: starEach es env) (h : EvV c nm X env fa A (eval e env) vars σ d σ1)
    (hr : EvL c nm X env fa A (spliced (backTo pos (starEach es env))) vars σ1 ds σ2) : EvL c nm X env fa A (spliced (backTo pos (starEach (e :: es) env))) vars σ (d :: ds) σ2 := by
  intro F ρ s Q Ex w post
  rw [hs]
  refine spliced_cons (h F ρ s _ Ex w fun F1 ρ1 v1 s1 l1 p1 w1 r1 => hr F1 ρ1 s1 _ Ex w1 fun F2 ρ2 vs s2 l2 p2 w2 r2 => ?_)
  exact post F2 ρ2 _ s2 (l1.trans l2) (p1.trans p2) w2 (.cons (r1.mono l2 p2) r2)

theorem EvV.tup {es : List Expr} {n : Nat} {pos : Pos} {ds : List D} (h : EvL c nm X env fa A (spliced (backTo pos (starEach es env))) vars σ ds σ1) (hl : ds.length ≤ maxLen) : EvV c nm X env fa A (eval (.Tuple es n pos) env) vars σ (.tup ds) σ1 := by
  intro F ρ s Q Ex w post
  refine Tuple_ (h F ρ s _ Ex w fun F1 ρ1 vs s1 l1 p1 w1 r1 => ?_)
  refine wpAny_newTuple ?_ (by rw [r1.length]; exact size_of_maxLen hl)
  obtain ⟨F2, l2, w2, r2⟩ := w1.newTup r1
  exact post F2 ρ1 _ _ (l1.trans l2) p1 w2 r2
theorem EvV.lst {es : List Expr} {pos : Pos} {ds : List D} (h : EvL c nm X env fa A (spliced (backTo pos (starEach es env))) vars σ ds σ1) (hl : ds.length ≤ maxLen) : EvV c nm X env fa A (eval (.List es pos) env) vars σ (.lst ds) σ1 := by
  intro F ρ s Q Ex w post
  refine List_ (h F ρ s _ Ex w fun F1 ρ1 vs s1 l1 p1 w1 r1 => ?_)
  refine wpAny_newList ?_ (by rw [r1.length]; exact size_of_maxLen hl)
  obtain ⟨F2, l2, w2, r2⟩ := w1.newLst r1
  exact post F2 ρ1 _ _ (l1.trans l2) p1 w2 r2
theorem EvV.lstLoc {es : List Expr} {pos : Pos} {ds : List D} (h : EvL c nm X env fa A (spliced (backTo pos (starEach es env))) vars σ ds σ1) (hl : ds.length ≤ maxLen) : EvV c nm X env fa A (eval (.List es pos) env) vars σ (.loc σ1.length) (σ1 ++ [some (.lst ds)]) := by
  intro F ρ s Q Ex w post
  refine List_ (h F ρ s _ Ex w fun F1 ρ1 vs s1 l1 p1 w1 r1 => ?_)
  refine wpAny_newList ?_ (by rw [r1.length]; exact size_of_maxLen hl)
  have g2 := w1.g.push_list r1 0
  have hlen : ρ1.length = σ1.length := w1.g.len
  refine post F1 _ _ _ l1 (p1.trans (List.prefix_append _ _)) ((w1.keep .push).intoG g2 PLe.rfl (List.prefix_append _ _)) (.loc ⟨[], ?_⟩)
  rw [List.getElem?_append_right (by omega)]; simp [hlen]

/-- [a] * n -/
theorem EvV.rep {a b : Expr} {pos pos' : Pos} {x : D} {i : Int} (hs : starEach [a] env = (false, eval a env) :: starEach [] env) (ha : EvV c nm X env fa A (eval a env) vars σ x σ1) (hb : EvV c nm X env fa A (eval b env) vars σ1 (.int i) σ2)
    (hi : small i = true) (hl : i.toNat ≤ maxLen) : EvV c nm X env fa A (eval (.BinOp (.List [a] pos') .Mult b pos) env) vars σ (.lst (List.replicate i.toNat x)) σ2 := by
  intro F ρ s Q Ex w post
  show wpAny _ _ (eval (.List [a] pos') env >>= fun x => holding [x] (eval b env) >>= fun y => standAt pos >>= fun _ => operate [x, y] (binaryOp .Mult x y)) Q Ex s
  refine wpAny_bind (List_ ((EvL.cons (ds := []) hs ha EvL.nil) F ρ s _ Ex w fun F1 ρ1 vs s1 l1 p1 w1 r1 => ?_))
  refine wpAny_newList ?_ (by rw [r1.length]; rw [sizeLine_eq]; simp)
  obtain ⟨v, us, rfl, rv, rn⟩ := r1.inv
  obtain rfl := (rn.inv : us = [])
  have h0 := none_at_size s1.heap
  have ho := Heap.get?_push_size s1.heap (o := { cls := .type "list", data := .seq [v].toArray }) rfl
  obtain ⟨q1, q2, q3⟩ := w1.g.fresh h0
  have l2 := upd_le (o := { cls := .type "list", data := .seq [v].toArray }) q1
  have w2 : W c nm X env fa _ ρ1 vars σ1 { s1 with heap := s1.heap.push { cls := .type "list", data := .seq [v].toArray } } :=
    (w1.keep .push).intoG ((w1.keep .push).g.freezeAt ho q1 q2 q3) l2 (List.prefix_refl _)
  refine wpAny_bind (wpAny_holding (hb _ ρ1 _ _ Ex w2 fun F3 ρ3 v3 s3 l3 p3 w3 r3 => ?_))
  refine wpAny_bind (wpAny_standAt (wpAny_operate ?_))
  obtain ⟨t, rfl⟩ := r3.inv
  have hsm : i.natAbs < 2 ^ 62 := of_decide_eq_true hi
  have hm : i.toNat ≤ 2 ^ 20 := hl
  refine list_times (w3.g.f _ _ (l3.o _ _ upd_self)) (by omega) (by omega) hm ?_
  have rr : Rvs c.C F3 ρ3 (List.replicate i.toNat v) (List.replicate i.toNat x) := by
    have : ∀ n, Rvs c.C F3 ρ3 (List.replicate n v) (List.replicate n x) := by
      intro n
      induction n with
      | zero => exact .nil
      | succ n ih => exact .cons (rv.mono (l2.trans l3) p3) ih
    exact this _
  obtain ⟨F4, l4, w4, r4⟩ := w3.newLst rr
  exact post F4 ρ3 _ _ (((l1.trans l2).trans l3).trans l4) (p1.trans p3) w4 r4

theorem EvV.idx {a i : Expr} {pos : Pos} {x y x' d : D} (ha : EvV c nm X env fa A (eval a env) vars σ x σ1) (hi : EvV c nm X env fa A (eval i env) vars σ1 y σ2) (ex : res σ2 x = some x') (e : idxD x' y = some d)
    (hns : ∀ o v, subscripted i false o v = operate [o, v] (getItem o v)) : EvV c nm X env fa A (eval (.Subscript a i pos) env) vars σ d σ2 := by
  intro F ρ s Q Ex w post
  refine Subscript_ (ha F ρ s _ Ex w fun F1 ρ1 v1 s1 l1 p1 w1 r1 => hi F1 ρ1 s1 _ Ex w1 fun F2 ρ2 v2 s2 l2 p2 w2 r2 => ?_)
  have rx := w2.g.rd (r1.mono l2 p2) ex
  refine bindE e fun xs ex' e1 => bindE e1 fun k ek e2 => ?_
  clear e1
  obtain rfl := intD_inv ek
  obtain ⟨hk, e3⟩ := iteT e2
  obtain ⟨t, rfl⟩ := r2.inv
  have hsm : k.natAbs < 2 ^ 62 := of_decide_eq_true hk.2
  cases x' with
  | lst xs' =>
      cases ex'
      obtain ⟨l, vs, rfl, hl, hs⟩ := w2.g.list rx
      obtain ⟨v, q1, q2⟩ := hs.get e3
      exact tail_any hl.typeIs slot_list_getitem.lookup (wpAny_getItem_list hl hk.1 (by omega) (by simpa using q1) (post F2 ρ2 _ _ (l1.trans l2) (p1.trans p2) w2 q2)) (hns _ _)
  | tup xs' =>
      cases ex'
      obtain ⟨l, vs, rfl, hl, hs⟩ := w2.g.tuple rx
      obtain ⟨v, q1, q2⟩ := hs.get e3
      have hlt : k.toNat < vs.length := (List.getElem?_eq_some_iff.mp q1).1
      have ht : IsTup s2.heap l vs.toArray := hl
      exact tail_any ht.typeIs slot_tuple_getitem.lookup (PyProof.Rows.getItem_tuple ht (by omega) (by omega) (seqIndex_of hk.1 (by simp; omega)) (by simpa using q1) (post F2 ρ2 _ _ (l1.trans l2) (p1.trans p2) w2 q2)) (hns _ _)
  | _ => (first | exact noneE ex' | exact falseE ex' | exact nomatch ex')

/-- a part of a slice -/
noncomputable def EvO (c : Cx) (nm : Nm) (X : PMap) (env : Env) (fa : List (Option Addr)) (A : Around) (t : Sem Value) (vars : Vars) (σ : Sto) (o : Option Int) (σ' : Sto) : Prop :=
  ∀ F ρ s Q Ex, W c nm X env fa F ρ vars σ s → (∀ F' ρ' v s', PLe F F' → ρ <+: ρ' → W c nm X env fa F' ρ' vars σ' s' → IsPart v o → Q v s') → wpAny (model c.prog c.w) A t Q Ex s
theorem EvO.none : EvO c nm X env fa A (evalPart none env) vars σ none σ := fun F ρ s Q Ex w post => wpAny_pure (post F ρ _ s PLe.rfl (List.prefix_refl _) w .none)
theorem EvO.some {e : Expr} {i : Int} (h : EvV c nm X env fa A (eval e env) vars σ (.int i) σ1) : EvO c nm X env fa A (evalPart (some e) env) vars σ (some i) σ1 := fun F ρ s Q Ex w post =>
  h F ρ s _ Ex w fun F1 ρ1 v1 s1 l1 p1 w1 r1 => by
    obtain ⟨t, rfl⟩ := r1.inv
    exact post F1 ρ1 _ s1 l1 p1 w1 (.int _ _)

theorem Rvs.pick {F : FM} {ρ : List (List Addr)} {vs : List Value} {xs : List D} (h : Rvs c.C F ρ vs xs) : ∀ is : List Nat, Rvs c.C F ρ (is.filterMap (vs.toArray[·]?)) (is.filterMap (xs[·]?))
  | [] => .nil
  | i :: is => by
    have ih := Rvs.pick h is
    rw [List.filterMap_cons, List.filterMap_cons]
    cases e : xs[i]? with
    | none =>
      have : vs[i]? = none := by rw [List.getElem?_eq_none_iff] at e ⊢; rw [h.length]; exact e
      simp only [List.getElem?_toArray, this]
      simpa using ih
    | some x =>
      obtain ⟨v, q1, q2⟩ := h.get e
      simp only [List.getElem?_toArray, q1]
      exact .cons q2 (by simpa using ih)

theorem EvV.sli {a : Expr} {l u st : Option Expr} {p pos : Pos} {x x' d : D} {lo hi sp : Option Int} (ha : EvV c nm X env fa A (eval a env) vars σ x σ1) (h1 : EvO c nm X env fa A (evalPart l env) vars σ1 lo σ2) (h2 : EvO c nm X env fa A (evalPart u env) vars σ2 hi σ3)
    (h3 : EvO c nm X env fa A (evalPart st env) vars σ3 sp σ4) (ex : res σ4 x = some x') (e : sliD x' lo hi sp = some d) : EvV c nm X env fa A (eval (.Subscript a (.Slice l u st p) pos) env) vars σ d σ4 := by
  intro F ρ s Q Ex w post
  refine Subscript_ (ha F ρ s _ Ex w fun F1 ρ1 v1 s1 l1 p1 w1 r1 => wpAny_Slice (h1 F1 ρ1 s1 _ Ex w1 fun F2 ρ2 v2 s2 l2 p2 w2 r2 => h2 F2 ρ2 s2 _ Ex w2 fun F3 ρ3 v3 s3 l3 p3 w3 r3 => h3 F3 ρ3 s3 _ Ex w3 fun F4 ρ4 v4 s4 l4 p4 w4 r4 => ?_))
  have rx := w4.g.rd ((r1.mono l2 p2).mono (l3.trans l4) (p3.trans p4)) ex
  refine bindE e fun xs ex' e => ?_
  obtain rfl := lstD_inv ex'
  · obtain ⟨hc, e⟩ := iteT e
    · cases e
      obtain ⟨a', vs, rfl, hl, hs⟩ := w4.g.list rx
      have w5 := w4.keep (.push (o := { cls := .type "slice", data := .fields #[v2, v3, v4] }))
      have hl5 := hl.push { cls := .type "slice", data := .fields #[v2, v3, v4] }
      have hsub : ∃ ops, subscripted (.Slice l u st p) false (.ref a') (.ref s4.heap.objs.size) = operate ops (getItem (.ref a') (.ref s4.heap.objs.size)) := by cases st <;> exact ⟨_, rfl⟩
      obtain ⟨ops, hsub⟩ := hsub
      refine tail_any hl5.typeIs slot_list_getitem.lookup (wpAny_getItem_list_slice hl5 (Heap.IsSliceOf.new ..) r2 r3 r4 hc.2 ?_ (by simp [hs.length]; exact size_of_maxLen hc.1)) hsub
      have hpk := Rvs.pick (hs.mono PLe.rfl (List.prefix_refl _)) (sliceRange (sliceBounds lo hi sp xs.length).1 (sliceBounds lo hi sp xs.length).2.1 (sliceBounds lo hi sp xs.length).2.2)
      obtain ⟨F6, l6, w6, r6⟩ := w5.newLst hpk
      have hsz : vs.toArray.size = xs.length := by simp [hs.length]
      unfold slicePick
      rw [hsz]
      exact post F6 ρ4 _ _ ((((l1.trans l2).trans l3).trans l4).trans l6) (((p1.trans p2).trans p3).trans p4) w6 r6
end
end Ev
end
section
set_option maxRecDepth 100000
set_option autoImplicit false
set_option linter.all false
namespace Ev
open PySem PySem.W PySem.Calls PyProof.Rows PySem.SeqAt

structure ClsOk (c : Cx) : Prop where
  hasDict : hasDictIn c.K c.C = true
  attr : ∀ k, k < 5 → plainGet c.K c.C (attrName k) = true ∧ ∃ a, findIn c.K (.ref c.C) (attrName k) = some a ∧ noGet c.K a = true

theorem attrName_inj : ∀ i, i < 5 → ∀ j, j < 5 → (attrName i == attrName j) = (i == j) := by decide +kernel
theorem attrIdx_name {y : Str} {k : Nat} (e : attrIdx y = some k) : y = attrName k ∧ k < 5 :=
  ⟨eq_of_beq (List.find?_some (p := fun k => y == attrName k) e), List.mem_range.mp (List.mem_of_find?_eq_some e)⟩

section
variable {c : Cx} {nm : Nm} {X : PMap} {fa : List (Option Addr)} {σ σ' σ1 σ2 σ3 σ4 : Sto} {env : Env} {vars : Vars} {A : Around} {F : FM} {ρ : List (List Addr)} {s : Shared}

theorem Ra.norefs {es : List DictEntry} {as : List (Nat × D)} (h : Ra c.C F ρ es as) : es.any (·.refKey) = false := by
  induction as generalizing es with
  | nil => obtain rfl := (h.inv : es = []); rfl
  | cons a as ih =>
    obtain ⟨hh, t, v, fs, rfl, hk, hv, hs⟩ := h.inv
    rw [List.any_cons, ih hs]; rfl
theorem getL_hit {es : List DictEntry} {x : Str} {hh : Int} {v w : Value} (h : v.isStr x = true) : getL x (⟨hh, v, w⟩ :: es) = some (some w) := by
  unfold getL
  rw [List.find?_cons, show (DictEntry.key ⟨hh, v, w⟩).isStr x = true from h]
theorem getL_miss {es : List DictEntry} {x : Str} {hh : Int} {v w : Value} (h : v.isStr x = false) (hr : DictEntry.refKey ⟨hh, v, w⟩ = false) : getL x (⟨hh, v, w⟩ :: es) = getL x es := by
  unfold getL
  rw [List.find?_cons, show (DictEntry.key ⟨hh, v, w⟩).isStr x = false from h, List.any_cons, hr, Bool.false_or]
theorem Ra.get : ∀ {es : List DictEntry} {as : List (Nat × D)} {k : Nat} {d : D}, k < 5 → Ra c.C F ρ es as → as.lookup k = some d → ∃ v, getL (attrName k) es = some (some v) ∧ Rv c.C F ρ v d
  | _, [], k, d, _, _, e => by first | exact noneE e | exact falseE e | exact nomatch e
  | _, (j, x) :: as, k, d, hk5, h, e => by
    obtain ⟨hs, t, v, es, rfl, hk, hv, hr⟩ := h.inv
    have hb : (Value.str (attrName j) t).isStr (attrName k) = (j == k) := attrName_inj j hk k hk5
    by_cases hjk : j = k
    · subst hjk
      rw [List.lookup_cons, beq_self_eq_true] at e
      cases e
      exact ⟨v, getL_hit (hb.trans (beq_self_eq_true _)), hv⟩
    · rw [List.lookup_cons, beq_eq_false_iff_ne.mpr (Ne.symm hjk)] at e
      obtain ⟨u, q1, q2⟩ := Ra.get hk5 hr e
      exact ⟨u, (getL_miss (hb.trans (beq_eq_false_iff_ne.mpr hjk)) rfl).trans q1, q2⟩
theorem Ra.miss : ∀ {es : List DictEntry} {as : List (Nat × D)} {x : Str}, Ra c.C F ρ es as → (∀ k, k < 5 → (attrName k == x) = false) → getL x es = some none
  | es, [], x, h, _ => by obtain rfl := (h.inv : es = []); rfl
  | _, (j, y) :: as, x, h, hx => by
    obtain ⟨hs, t, v, es, rfl, hk, hv, hr⟩ := h.inv
    exact (getL_miss (show (Value.str (attrName j) t).isStr x = false from hx j hk) rfl).trans (Ra.miss hr hx)

theorem rv_handed {v : Value} {d : D} (r : Rv c.C F ρ v d) : handedIn v = true := by cases r <;> rfl
theorem attrCall {f a : Expr} {as : List Expr} {ks : List Keyword} {p : Pos} {y : Str} {whole : Sem Value} : attributeBase (.Call f (a :: as) ks p) y env whole = whole := by cases f <;> rfl
theorem attrBase {e : Expr} {y : Str} {whole : Sem Value} (h : plainBase e = true) : attributeBase e y env whole = whole := by
  cases e with
  | Call f as ks p =>
    cases as with
    | cons a as => exact attrCall
    | nil => (first | exact noneE h | exact falseE h | exact nomatch h)
  | _ => rfl
theorem G.inst {x : D} {v : Value} {as : List (Nat × D)} (g : G c F X fa ρ σ s) (r : Rv c.C F ρ v x) (e : attrsOf σ x = some as) :
    ∃ a d es n, v = .ref a ∧ s.heap.get? a = some (instObj c.C d) ∧ s.heap.get? d = some (dictOf es n) ∧ Ra c.C F ρ es as := by
  have e' : (match instD x with | some as => some as | none => (instAt σ x).map (·.2)) = some as := e
  cases hi : instD x with
  | some as' =>
    rw [hi] at e'
    cases e'
    obtain rfl := instD_inv hi
    obtain ⟨a, d, es, n, rfl, ho, hd, hs⟩ := r.inv
    exact ⟨a, d, es, n, rfl, g.f _ _ ho, g.f _ _ hd, hs⟩
  | none =>
    rw [hi] at e'
    refine mapE e' fun p h1 h2 => ?_
    obtain ⟨rfl, h3⟩ := instAt_inv h1
    obtain ⟨a, q, rfl, _, ho⟩ := g.obj r h3
    obtain ⟨a', d, es, n, h4, h5, h6, h7⟩ := ho.inv
    cases h4
    subst h2
    exact ⟨a, d, es, n, rfl, h5, h6, h7⟩

theorem G.K (Z : Bas c) (g : G c F X fa ρ σ s) : c.K.In s.heap := Z.K.keeps fun b o e => g.f b o (g.base b o e)

theorem EvV.attr {a : Expr} {y : Str} {pos : Pos} {x d : D} {as : List (Nat × D)} {k : Nat} (Z : Bas c) (C : ClsOk c) (hb : plainBase a = true) (ha : EvV c nm X env fa A (eval a env) vars σ x σ1) (ea : attrsOf σ1 x = some as)
    (hk : attrIdx y = some k) (e : as.lookup k = some d) : EvV c nm X env fa A (eval (.Attribute a y pos) env) vars σ d σ1 := by
  intro F ρ s Q Ex w post
  have he : eval (.Attribute a y pos) env = (do
      let o ← attributeBase a y env (eval a env)
      standAt pos.atName
      let r ← holding [o] (getAttr o y true)
      letTemporaryGo a o r
      pure r) := rfl
  rw [he, attrBase hb]
  refine wpAny_bind (ha F ρ s _ Ex w fun F1 ρ1 v1 s1 l1 p1 w1 r1 => wpAny_bind (wpAny_standAt (wpAny_bind (wpAny_holding ?_))))
  obtain ⟨b, dd, es, n, rfl, h1, h2, h3⟩ := w1.g.inst r1 ea
  obtain ⟨rfl, hk5⟩ := attrIdx_name hk
  obtain ⟨v, q1, q2⟩ := h3.get hk5 e
  obtain ⟨hg, at', hf, hn⟩ := C.attr k hk5
  have I : InstAt s1.heap b (instObj c.C dd) c.C (some (dictOf es n)) := ⟨h1, rfl, rfl, h2⟩
  have hh : handedIn v = true := rv_handed q2
  refine get_value (w1.g.K Z) I (plainGet_of hg).1 (findObj_own C.hasDict hf hn (by rw [lookIn_dict]; exact q1)) hh ?_
  refine wpAny_bind (wpAny_letTemporaryGo (wpAny_pure ?_))
  exact post F1 ρ1 v _ l1 p1 (w1.keep .tok) q2
end
end Ev
end
section
set_option maxRecDepth 100000
set_option autoImplicit false
set_option linter.all false
namespace Ev
open PySem PySem.W PySem.Calls PyProof.Rows PySem.SeqAt

section
variable {c : Cx} {nm : Nm} {X : PMap} {fa : List (Option Addr)} {σ σ' σ1 σ2 σ3 σ4 : Sto} {env : Env} {vars : Vars} {A : Around} {F : FM} {ρ : List (List Addr)} {s : Shared}
variable {M : Model} {E : Value → Shared → Prop}

theorem evalArgs_ns {f : Value} {args : List (Bool × Sem Value)} {Q : Args → Shared → Prop} (hns : args.all (!·.1) = true) (h : wpAny M A (spliced args) (fun vs s₁ => Q ⟨vs, []⟩ s₁) E s) : wpAny M A (evalArgs f true args []) Q E s := by
  cases args with
  | nil => exact fun Γ p hΓ => h Γ p hΓ
  | cons a r =>
    obtain ⟨b, t⟩ := a
    cases b with
    | true => simp at hns
    | false => exact evalArgs_plain h

theorem backTo_ns {args : List (Bool × Sem Value)} {pos : Pos} (h : args.all (!·.1) = true) : (backTo pos args).all (!·.1) = true ∧ (backTo pos args).any (·.1) = false := by
  unfold backTo
  constructor
  · rw [List.all_map]; exact h
  · rw [List.any_map]
    rw [List.any_eq_false]
    intro x hx
    have := List.all_eq_true.mp h x hx
    simpa using this

theorem MCall {o : Expr} {m : Str} {apos pos : Pos} {args : List Expr} {Q : Value → Shared → Prop} (hb : plainBase o = true) (hp : (apos.endLine == pos.line) = true) (hn : args.length < 29) (hns : (starEach args env).all (!·.1) = true)
    (h : wpAny M A (eval o env) (fun ov s₁ => ∀ pl : Sem Bool, wpAny M A (getMethod ov m pl) (fun fx s₂ => wpAny M A (callWith pos fx.1 fx.2 (backTo pos (starEach args env)) []) Q E s₂) E s₁) E s) :
    wpAny M A (eval (.Call (.Attribute o m apos) args [] pos) env) Q E s := by
  show wpAny _ _ (attributeBase o m env (eval o env) >>= fun ov => standAt apos.atName >>= fun _ => methodCall o m apos pos env ov (args.length + 0) (backTo pos (starEach args env)) (backToKw pos (keywordEach [] env))) Q E s
  rw [attrBase hb]
  refine wpAny_bind (wpAny_mono h (fun ov s₁ h₁ => wpAny_bind (wpAny_standAt ?_)) fun _ _ e => e)
  have hform : methodCallForm (args.length + 0) (backTo pos (starEach args env)) (backToKw pos (keywordEach [] env)) = true := by
    unfold methodCallForm
    rw [(backTo_ns hns).1]
    have : keywordEach [] env = [] := rfl
    rw [this]
    simp [backToKw]; omega
  unfold methodCall
  rw [hform]
  refine wpAny_bind (wpAny_holding ?_)
  show wpAny _ _ (getMethod ov m (do return (← importBound o env).getD true)) _ _ _
  refine wpAny_mono (h₁ _) (fun fx s₂ h₂ => ?_) fun _ _ e => e
  obtain ⟨f, first⟩ := fx
  show wpAny _ _ (methodCallPos true o env apos pos >>= fun p => callWith p f first (backTo pos (starEach args env)) (backToKw pos (keywordEach [] env))) _ _ _
  have : methodCallPos true o env apos pos = pure pos := by unfold methodCallPos; simp [hp]
  rw [this]
  exact wpAny_bind (wpAny_pure h₂)

/-- the arguments, then the call of a built-in -/
theorem CallB {id : String} {pos pos' : Pos} {first : List Value} {args : List Expr} {Q : Value → Shared → Prop} (hns : (starEach args env).all (!·.1) = true)
    (h : wpAny M A (spliced (backTo pos (starEach args env))) (fun vs s₁ => wpAny M A (call (.builtin id) (first ++ vs)) Q E s₁) E s) : wpAny M A (callWith pos' (.builtin id) first (backTo pos (starEach args env)) []) Q E s :=
  callWith_builtin (backTo_ns hns).2 (evalArgs_ns (backTo_ns hns).1 h)
theorem CallT {T : String} {pos pos' : Pos} {first : List Value} {args : List Expr} {Q : Value → Shared → Prop} (hns : (starEach args env).all (!·.1) = true)
    (h : wpAny M A (spliced (backTo pos (starEach args env))) (fun vs s₁ => wpAny M A (call (.type T) (first ++ vs)) Q E s₁) E s) : wpAny M A (callWith pos' (.type T) first (backTo pos (starEach args env)) []) Q E s := by
  first
    | exact PySem.callWith_type (backTo_ns hns).2 (evalArgs_ns (backTo_ns hns).1 h)
    | exact PyProof.Rows.callWith_type (backTo_ns hns).2 (evalArgs_ns (backTo_ns hns).1 h)
theorem CallF {f : Value} {pos pos' : Pos} {first : List Value} {args : List Expr} {Q : Value → Shared → Prop} (hk : keepIn c.K f = true) (hns : (starEach args env).all (!·.1) = true)
    (h : wpAny M A (spliced (backTo pos (starEach args env))) (fun vs s₁ => c.K.In s₁.heap ∧ wpAny M A (call f (first ++ vs)) Q E s₁) E s) : wpAny M A (callWith pos' f first (backTo pos (starEach args env)) []) Q E s :=
  callWith_of (by rw [(backTo_ns hns).2]; rfl) (keeps_K hk) (evalArgs_ns (backTo_ns hns).1 h)

theorem W.turn {l : Nat} {m m' : MObj} {r : List Addr} {h' : Heap} {tk : Nat} (w : W c nm X env fa F ρ vars σ s) (hl : σ[l]? = some (some m)) (hr : ρ[l]? = some r)
    (hk : ∀ b o, b ∉ r → s.heap.get? b = some o → h'.get? b = some o) (hm : ObjR c.C F ρ h' r m') (ha : ∀ a ∈ r, ∃ o, h'.get? a = some o) (ht : s.toks ≤ tk) : W c nm X env fa F ρ vars (σ.set l (some m')) { s with heap := h', toks := tk } := by
  refine ⟨w.g.turn hl hr hk hm ha ht, w.f.to PLe.rfl (List.prefix_refl _) fun i a o hi ho => hk a o (fun hin => ?_) ho⟩
  have := w.g.apart (.fr i) (.loc l) a trivial ⟨m, hl⟩ (adrs_fr.mpr hi) (by rw [adrs_loc hr]; exact hin)
  cases this

theorem getLM {M : Model} {E : Value → Shared → Prop} {a : Addr} {vs : Array Value} {n : Nat} {name : Str} {id : String} {pl : Sem Bool} {Q : Value × List Value → Shared → Prop} (slot : Slot "list" name id) (hty : typeOf (.builtin id) = pure (.type "method_descriptor"))
    (ho : s.heap.get? a = some { cls := .type "list", data := .seq vs n }) (h : Q (.builtin id, [.ref a]) s) : wpAny M A (getMethod (.ref a) name pl) Q E s :=
  getMethod_builtin ⟨_, ho, rfl⟩ PySem.F.plainAttrs_list slot hty (fun b e => by cases e; exact ⟨_, ho, rfl⟩) h

theorem isLst_get {x : D} (h : isLst σ x = true) : ∃ l xs, x = .loc l ∧ σ[l]? = some (some (.lst xs)) := by
  cases x with
  | loc l =>
    have h' : (match σ[l]? with | some (some (.lst _)) => true | _ => false) = true := h
    match hs : σ[l]?, h' with
    | some (some (.lst xs)), _ => exact ⟨l, xs, rfl, hs⟩
  | _ => (first | exact noneE h | exact falseE h | exact nomatch h)

theorem EvV.append {o a : Expr} {apos pos : Pos} {l : Nat} {y : D} {xs : List D} (hb : plainBase o = true) (hp : (apos.endLine == pos.line) = true) (hs1 : starEach [a] env = (false, eval a env) :: starEach [] env)
    (ho : EvV c nm X env fa A (eval o env) vars σ (.loc l) σ1) (hl1 : isLst σ1 (.loc l) = true) (ha : EvV c nm X env fa A (eval a env) vars σ1 y σ2) (hl : σ2[l]? = some (some (.lst xs))) (hz : xs.length < maxLen) :
    EvV c nm X env fa A (eval (.Call (.Attribute o ("append" : Str) apos) [a] [] pos) env) vars σ .none (σ2.set l (some (.lst (xs ++ [y])))) := by
  intro F ρ s Q Ex w post
  have hns : (starEach [a] env).all (!·.1) = true := by rw [hs1]; rfl
  refine MCall hb hp (by simp) hns (ho F ρ s _ Ex w fun F1 ρ1 v1 s1 l1 p1 w1 r1 => fun pl => ?_)
  obtain ⟨l', xs1, e1, e2⟩ := isLst_get hl1
  cases e1
  obtain ⟨b, vs1, n1, rfl, q1, q2, q3⟩ := w1.g.live r1 e2
  refine getLM slot_list_append PySem.F.type_list_append q2 ?_
  refine CallB hns ((EvL.cons (ds := []) hs1 ha EvL.nil) F1 ρ1 s1 _ Ex w1 fun F2 ρ2 vs s2 l2 p2 w2 r2 => ?_)
  obtain ⟨u, us, rfl, ru, rn⟩ := r2.inv
  obtain rfl := (rn.inv : us = [])
  obtain ⟨b', vs2, n2, hbb, k1, k2, k3⟩ := w2.g.live (r1.mono l2 p2) hl
  cases hbb
  refine wpAny_list_append_plain ⟨n2, k2⟩ (fun h' hpl hs' => ?_) (by rw [List.size_toArray, k3.length]; exact size_of_maxLen (by omega))
  obtain ⟨n3, hpl⟩ := hpl
  have hpl' : h'.get? b = some { cls := .type "list", data := .seq (vs2 ++ [u]).toArray n3 } := by rw [hpl]; simp
  refine post F2 ρ2 _ _ (l1.trans l2) (p1.trans p2) (w2.turn (tk := s2.toks) hl k1 (fun d o hd e => (hs'.2 d (by simpa using hd)).trans e) (.lst hpl' (k3.append (.cons ru .nil))) (fun d hd => by simp at hd; subst hd; exact ⟨_, hpl⟩) (Nat.le_refl _)) .none

theorem EvV.pop {o : Expr} {apos pos : Pos} {l : Nat} {y : D} {xs : List D} (hb : plainBase o = true) (hp : (apos.endLine == pos.line) = true)
    (ho : EvV c nm X env fa A (eval o env) vars σ (.loc l) σ1) (hl : σ1[l]? = some (some (.lst xs))) (hz : xs.length ≤ maxLen) (hy : xs.getLast? = some y) :
    EvV c nm X env fa A (eval (.Call (.Attribute o ("pop" : Str) apos) [] [] pos) env) vars σ y (σ1.set l (some (.lst xs.dropLast))) := by
  intro F ρ s Q Ex w post
  refine MCall hb hp (by simp) rfl (ho F ρ s _ Ex w fun F1 ρ1 v1 s1 l1 p1 w1 r1 => fun pl => ?_)
  obtain ⟨b, vs1, n1, rfl, q1, q2, q3⟩ := w1.g.live r1 hl
  refine getLM PySem.F.slot_list_pop PySem.F.type_list_pop q2 ?_
  refine CallB rfl (args_nil ?_)
  have hlen : vs1.length = xs.length := q3.length
  have hne : xs ≠ [] := fun e => by subst e; simp at hy
  have hpos : 0 < xs.length := List.length_pos_iff.mpr hne
  have hy' : xs[xs.length - 1]? = some y := by rw [← List.getLast?_eq_getElem?]; exact hy
  obtain ⟨u, hu, ru⟩ := q3.get hy'
  have hui : vs1.toArray[vs1.toArray.size - 1]? = some u := by simp [hlen, hu]
  refine call_meets PySem.F.slot_list_pop ⟨_, q2, rfl⟩ PySem.F.entry_list_pop (PySem.F.args_list_pop_1 _) (PySem.MeetsSeq.list_pop_last b vs1.toArray n1 u hui (by rw [List.size_toArray, hlen]; exact size_of_maxLen hz)) ⟨q2, ?_⟩
  have hupd : Obj.mapSeq (fun ys => ys.eraseIdxIfInBounds (vs1.toArray.size - 1)) { cls := .type "list", data := .seq vs1.toArray n1 } = { cls := .type "list", data := .seq vs1.dropLast.toArray (n1 + 1) } := by
    have e1 : vs1.toArray.eraseIdxIfInBounds (vs1.toArray.size - 1) = vs1.dropLast.toArray := by
      have hv : vs1 ≠ [] := fun e => by rw [e] at hlen; simp at hlen; omega
      have hsplit := List.dropLast_concat_getLast hv
      have hl2 : vs1.toArray.size - 1 = vs1.dropLast.length := by simp
      rw [hl2]
      conv => lhs; rw [show vs1.toArray = (vs1.dropLast ++ vs1.getLast hv :: []).toArray by rw [hsplit]]
      rw [kl_erase]; simp
    simp only [Obj.mapSeq, e1]
    have : ¬ vs1.dropLast.toArray.size = vs1.toArray.size := by simp; omega
    simp [this]
    omega
  have hget : (s1.heap.update b (Obj.mapSeq fun ys => ys.eraseIdxIfInBounds (vs1.toArray.size - 1))).get? b = some { cls := .type "list", data := .seq vs1.dropLast.toArray (n1 + 1) } := by
    rw [Heap.get?_update_self _ q2 (by rw [hupd]; rfl), hupd]
  have hdl : Rvs c.C F1 ρ1 vs1.dropLast xs.dropLast := by
    have := q3.take (xs.length - 1)
    rw [List.dropLast_eq_take, List.dropLast_eq_take, hlen]; exact this
  exact post F1 ρ1 _ _ l1 p1 (w1.turn (tk := s1.toks) hl q1 (fun d o hd e => (Heap.get?_update_other _ _ (fun q => hd (by simp [q]))).trans e) (.lst hget hdl) (fun d hd => by simp at hd; subst hd; exact ⟨_, hget⟩) (Nat.le_refl _)) ru
end
end Ev
end
section
set_option maxRecDepth 100000
set_option autoImplicit false
set_option linter.all false
namespace Ev
open PySem PySem.W PySem.Calls PyProof.Rows PySem.SeqAt

theorem zip_lookup : ∀ {ns : List Str} {vs : List Value} {i : Nat} {x : Str}, ns.Nodup → ns.length = vs.length → ns[i]? = some x → (ns.zip vs).lookup x = vs[i]?
  | [], _, i, x, _, _, e => by simp at e
  | n :: ns, [], _, _, _, hl, _ => by simp at hl
  | n :: ns, v :: vs, 0, x, _, _, e => by simp at e; subst e; simp [List.lookup_cons]
  | n :: ns, v :: vs, i + 1, x, nd, hl, e => by
    simp only [List.nodup_cons] at nd
    have e' : ns[i]? = some x := by simpa using e
    have hne : (x == n) = false := by
      rw [beq_eq_false_iff_ne]; intro q; subst q; exact nd.1 (List.mem_of_getElem? e')
    rw [List.zip_cons_cons, List.lookup_cons, hne]
    simpa using zip_lookup nd.2 (by simpa using hl) e'

theorem zip_self : ∀ {ns : List Str} {vs : List Value} {t : List (Str × Value)}, ns.Nodup → ns.length = vs.length → (∀ n ∈ ns, t.lookup n = (ns.zip vs).lookup n) → (ns.filterMap fun n => (t.lookup n).map (n, ·)) = ns.zip vs
  | [], _, _, _, _, _ => rfl
  | n :: ns, [], _, _, hl, _ => by simp at hl
  | n :: ns, v :: vs, t, nd, hl, ht => by
    have h0 := ht n (by simp)
    simp only [List.nodup_cons] at nd
    rw [List.zip_cons_cons, List.lookup_cons, beq_self_eq_true] at h0
    rw [List.filterMap_cons, h0, List.zip_cons_cons]
    dsimp only [Option.map_some]
    congr 1
    refine zip_self nd.2 (by simpa using hl) fun m hm => ?_
    rw [ht m (by simp [hm]), List.zip_cons_cons, List.lookup_cons]
    have : (m == n) = false := by rw [beq_eq_false_iff_ne]; intro q; subst q; exact nd.1 hm
    rw [this]

theorem bindsPlain {fd : FuncData} {as : List Arg} {vs : List Value} {s : Shared} (hp : fd.params = ⟨[], as, none, [], [], none, []⟩) (hd : fd.defaults = .none) (nd : (as.map (·.arg)).Nodup) (hl : vs.length = as.length) :
    BindsTo s fd ⟨vs, []⟩ ((as.map (·.arg)).zip vs) := by
  intro M A E Q hq
  have hl' : (as.map (·.arg)).length = vs.length := by simp [hl]
  have miss : List.filter (fun n => (List.lookup n ((as.map (·.arg)).zip vs)).isNone) ((as.map (·.arg)).take ((as.map (·.arg)).length - 0)) = [] := by
    rw [List.filter_eq_nil_iff]
    intro n hn
    have hn' := List.mem_of_mem_take hn
    obtain ⟨i, hi, he⟩ := List.mem_iff_getElem.mp hn'
    have := zip_lookup (vs := vs) nd hl' (List.getElem?_eq_some_iff.mpr ⟨hi, he⟩)
    rw [this, List.getElem?_eq_getElem (by omega)]
    simp
  have hzip := zip_self (t := (as.map (·.arg)).zip vs) nd hl' fun _ _ => rfl
  unfold bindArgs
  simp only [hp, hd, List.map_nil, List.nil_append, List.append_nil]
  rw [List.forIn_nil]
  refine wpAny_bind (wpAny_pure ?_)
  have hs : seqItems? Value.none = pure none := rfl
  rw [hs]
  refine wpAny_bind (wpAny_pure ?_)
  have hgt : ¬ vs.length > (as.map (·.arg)).length := by omega
  simp only [Option.getD_none, List.length_nil, List.drop_nil, Nat.zero_sub, miss, List.zip_nil_right, List.forIn_nil, hgt, decide_false, Bool.false_and, Bool.false_eq_true, if_false, List.isEmpty_nil, Bool.not_true]
  refine wpAny_bind (wpAny_pure (wpAny_bind (wpAny_pure ?_)))
  simp only [List.isEmpty_nil, Bool.not_true, Bool.false_eq_true, if_false, List.append_nil, hzip]
  exact wpAny_pure hq
end Ev
end
section
set_option maxRecDepth 100000
set_option autoImplicit false
set_option linter.all false
namespace Ev
open PySem PySem.W PySem.Calls PyProof.Rows PySem.SeqAt

theorem bindL_miss {ko : Str → Option NameKind} : ∀ {bs : List (Str × Value)} {m : Str → Option Value} {x : Str}, (∀ b ∈ bs, b.1 ≠ x) → bindL ko bs m x = m x
  | [], _, _, _ => rfl
  | (n, v) :: r, m, x, h => by
    unfold bindL
    rw [bindL_miss fun b hb => h b (by simp [hb])]
    have : x ≠ n := fun q => h (n, v) (by simp) q.symm
    split
    · simp [this]
    · rfl
theorem bindL_hit {ko : Str → Option NameKind} : ∀ {bs : List (Str × Value)} {m : Str → Option Value} {x : Str} {v : Value} {i : Nat}, (bs.map (·.1)).Nodup → bs[i]? = some (x, v) → ko x = some .local → bindL ko bs m x = some v
  | [], _, _, _, i, _, e, _ => by simp at e
  | (n, u) :: r, m, x, v, 0, nd, e, hk => by
    simp at e; obtain ⟨rfl, rfl⟩ := e
    simp only [List.map_cons, List.nodup_cons] at nd
    unfold bindL
    rw [bindL_miss fun b hb q => nd.1 (by rw [← q]; exact List.mem_map_of_mem hb), if_pos hk]
    simp
  | (n, u) :: r, m, x, v, i + 1, nd, e, hk => by
    simp only [List.map_cons, List.nodup_cons] at nd
    unfold bindL
    exact bindL_hit nd.2 (by simpa using e) hk
theorem bindC_miss {ko : Str → Option NameKind} : ∀ {bs : List (Str × Value)} {m : Str → Option Value} {x : Str}, (∀ b ∈ bs, b.1 ≠ x) → bindC ko bs m x = m x
  | [], _, _, _ => rfl
  | (n, v) :: r, m, x, h => by
    unfold bindC
    rw [bindC_miss fun b hb => h b (by simp [hb])]
    have : x ≠ n := fun q => h (n, v) (by simp) q.symm
    split
    · rfl
    · simp [this]
theorem bindC_hit {ko : Str → Option NameKind} : ∀ {bs : List (Str × Value)} {m : Str → Option Value} {x : Str} {v : Value} {i : Nat}, (bs.map (·.1)).Nodup → bs[i]? = some (x, v) → ko x ≠ some .local → bindC ko bs m x = some v
  | [], _, _, _, i, _, e, _ => by simp at e
  | (n, u) :: r, m, x, v, 0, nd, e, hk => by
    simp at e; obtain ⟨rfl, rfl⟩ := e
    simp only [List.map_cons, List.nodup_cons] at nd
    unfold bindC
    rw [bindC_miss fun b hb q => nd.1 (by rw [← q]; exact List.mem_map_of_mem hb), if_neg hk]
    simp
  | (n, u) :: r, m, x, v, i + 1, nd, e, hk => by
    simp only [List.map_cons, List.nodup_cons] at nd
    unfold bindC
    exact bindC_hit nd.2 (by simpa using e) hk

noncomputable def frAdrs (nm : Nm) (L : Addr) (cells : List (Str × Addr)) : List (Option Addr) := some L :: nm.map fun x => if x.2 == .cell then cells.lookup x.1 else none
theorem frAdrs_0 {nm : Nm} {L : Addr} {cells : List (Str × Addr)} : (frAdrs nm L cells)[0]? = some (some L) := rfl
theorem frAdrs_s {nm : Nm} {L : Addr} {cells : List (Str × Addr)} {i : Nat} {a : Addr} (h : (frAdrs nm L cells)[i + 1]? = some (some a)) : ∃ x, nm[i]? = some (x, .cell) ∧ cells.lookup x = some a := by
  simp only [frAdrs, List.getElem?_cons_succ, List.getElem?_map] at h
  cases e : nm[i]? with
  | none => rw [e] at h; simp at h
  | some p =>
    obtain ⟨x, k⟩ := p
    rw [e] at h
    simp only [Option.map_some, Option.some.injEq] at h
    split at h
    · rename_i hk
      have : k = .cell := by simpa using hk
      subst this
      exact ⟨x, rfl, h⟩
    · cases h
theorem frAdrs_at {nm : Nm} {L : Addr} {cells : List (Str × Addr)} {i : Nat} {x : Str} {a : Addr} (h : nm[i]? = some (x, .cell)) (hc : cells.lookup x = some a) : (frAdrs nm L cells)[i + 1]? = some (some a) := by
  simp only [frAdrs, List.getElem?_cons_succ, List.getElem?_map, h]
  simp [hc]

theorem none_of_ge {h : Heap} {a : Addr} (e : h.objs.size ≤ a) : h.get? a = none := by
  cases q : h.get? a with
  | none => rfl
  | some o => exact absurd (Heap.lt_size q) (Nat.not_lt.mpr e)

theorem startVars_len {fn : Fn} {ds : List D} (h1 : ds.length = fn.np) (h2 : fn.np ≤ fn.nv) : (startVars fn ds).length = fn.nv := by simp [startVars]; omega
theorem startVars_get {fn : Fn} {ds : List D} {i : Nat} {d : D} (h1 : ds.length = fn.np) (h : (startVars fn ds)[i]? = some (some d)) : ds[i]? = some d := by
  unfold startVars at h
  by_cases hi : i < ds.length
  · rw [List.getElem?_append_left (by simpa using hi)] at h
    simpa using h
  · rw [List.getElem?_append_right (by simpa using hi)] at h
    rw [List.getElem?_replicate] at h
    split at h <;> cases h

structure FnOk (C : Cc) (fd : FuncData) (fn : Fn) (as : List Arg) (bd : List Stmt) : Prop where
  params : fd.params = ⟨[], as, none, [], [], none, []⟩
  body : fd.body = .stmts bd
  globals : fd.globals = mainGlobals
  builtins : fd.builtins = builtinsNs
  closure : fd.closure = []
  defaults : fd.defaults = .none
  gen : fd.scope.isGenerator = false
  cor : fd.scope.isCoroutine = false
  kind : fd.scope.kind = .function
  nd : (fd.scope.names.map (·.1)).Nodup
  take : (fd.scope.names.map (·.1)).take as.length = as.map (·.arg)
  pk : ∀ (i : Nat) x k, i < as.length → fd.scope.names[i]? = some (x, k) → k = .local ∨ k = .cell
  nofree : ∀ x ∈ fd.scope.names, x.2 ≠ .free ∧ x.2 ≠ .globalExplicit
  comp : chkSs C 200 fn.body fd.scope.names bd = true
  nv : fn.nv = fd.scope.names.length
  np : fn.np = as.length

theorem plainP_inv : ∀ {p : Arguments}, plainP p = true → p = ⟨[], p.args, none, [], [], none, []⟩
  | ⟨a, as, b, c, d, e, f⟩, h => by
    simp only [plainP, Bool.and_eq_true, List.isEmpty_iff, Option.isNone_iff_eq_none] at h
    obtain ⟨rfl, rfl, rfl, rfl, rfl, rfl⟩ := h
    rfl
theorem isNoneV_inv {v : Value} (h : isNoneV v = true) : v = .none := by
  unfold isNoneV at h
  split at h
  · rfl
  · cases h
theorem fnIs_inv {C : Cc} {fd : FuncData} {fn : Fn} (h : fnIs C fn fd = true) : ∃ body, FnOk C fd fn fd.params.args body := by
  unfold fnIs at h
  simp only [Bool.and_eq_true, Bool.not_eq_true', decide_eq_true_eq] at h
  obtain ⟨⟨h1, h2, h3⟩, ⟨h4, h5⟩, ⟨h6, h7⟩, h8, h9, h10, h11, h12, ⟨h13, h14⟩, h15⟩ := h
  cases hb : fd.body with
  | stmts b =>
    rw [hb] at h15
    exact ⟨b, ⟨plainP_inv h1, hb, eq_of_beq h4, eq_of_beq h5, List.isEmpty_iff.mp h2, isNoneV_inv h3, h6, h7, eq_of_beq h8, h9, h10, fun i x k hi e => by
      have := List.all_eq_true.mp h11 (x, k) (List.mem_of_getElem? (i := i) (by rw [List.getElem?_take_of_lt hi]; exact e))
      simpa using this, fun x hx => by simpa using List.all_eq_true.mp h12 x hx, h15, h13, h14⟩⟩
  | _ => rw [hb] at h15; cases h15

section
variable {c : Cx} {F : FM} {X : PMap} {ρ : List (List Addr)} {σ : Sto} {s : Shared} {A : Around}

theorem enterFn {C : Cc} {fd : FuncData} {fn : Fn} {as : List Arg} {body : List Stmt} {f : Addr} {fo : Obj} {vs : List Value} {ds : List D} {R : Result → Shared → Prop}
    (hfn : FnOk C fd fn as body) (Z : Bas c) (g : G c F X [] ρ σ s) (ho : s.heap.get? f = some fo) (hdt : fo.data = .func fd) (hcd : s.heap.CodeRec fd.code fd.qualname) (hnl : s.heap.NoLimit)
    (hroom : A.depth < recursionLimit) (rv : Rvs c.C F ρ vs ds) (hlen : ds.length = fn.np)
    (h : ∀ env fa s', env.scope = fd.scope → W c fd.scope.names X env fa F ρ (startVars fn ds) σ s' →
      wpAny (model c.prog c.w) (A.deeper env) (execs body env) (fun fl s'' => R (.ok (.ret (match fl with | .ret v => v | _ => .none))) s'')
        (fun e s'' => wpAny (model c.prog c.w) (A.deeper env) (leaving env e) (fun _ s3 => R (.error e) s3) (fun e' s3 => R (.error e') s3) s'') s') :
    codeAny (model c.prog c.w) A (.call (.ref f) ⟨vs, []⟩) R s := by
  have hnp := hfn.np
  have hvl : vs.length = as.length := by rw [rv.length]; omega
  have hle : as.length ≤ fd.scope.names.length := by
    have := congrArg List.length hfn.take
    simp at this; omega
  have ndA : (as.map (·.arg)).Nodup := by rw [← hfn.take]; exact hfn.nd.sublist (List.take_sublist _ _)
  have hzl : (as.map (·.arg)).length = vs.length := by simp [hvl]
  -- the i-th name and the i-th bind
  have hbi : ∀ (i : Nat) x k v, fd.scope.names[i]? = some (x, k) → vs[i]? = some v → ((as.map (·.arg)).zip vs)[i]? = some (x, v) := by
    intro i x k v e1 e2
    have hi : i < as.length := by rw [← hvl]; exact (List.getElem?_eq_some_iff.mp e2).1
    rw [← hfn.take, List.getElem?_zip_eq_some]
    refine ⟨?_, e2⟩
    rw [List.getElem?_take_of_lt hi, List.getElem?_map, e1]; rfl
  have ndZ : (((as.map (·.arg)).zip vs).map (·.1)).Nodup := by rw [List.map_fst_zip (by omega)]; exact ndA
  refine codeAny_call_function hroom ho hdt hfn.cor hfn.gen hfn.body hcd ((bindsPlain hfn.params hfn.defaults ndA hvl) _ _ _ _ ?_)
  rw [hfn.closure]
  refine wpAny_with_toks (Nat.le_refl s.toks) ?_
  refine wpAny_newFunctionEnv_cells hfn.kind (fun x hx => ?_) fun env he s' y ht => ?_
  · obtain ⟨i, hi, e⟩ := List.mem_iff_getElem.mp hx
    have e' : ((as.map (·.arg)).zip vs)[i]? = some x := List.getElem?_eq_some_iff.mpr ⟨hi, e⟩
    rw [List.getElem?_zip_eq_some] at e'
    have hia : i < as.length := by have := (List.getElem?_eq_some_iff.mp e'.1).1; simpa using this
    rw [← hfn.take, List.getElem?_take_of_lt hia, List.getElem?_map] at e'
    obtain ⟨⟨z, k⟩, q1, q2⟩ := Option.map_eq_some_iff.mp e'.1
    have q2' : z = x.1 := q2
    subst q2'
    have hl := lookup_idx hfn.nd q1
    rcases hfn.pk i _ _ hia q1 with rfl | rfl
    · exact .inl hl
    · exact .inr ⟨hl, cellsFrom_some _ _ _ (.inl hl)⟩
  · obtain ⟨h', tk, rfl, hk⟩ := y.done
    have esc : env.scope = fd.scope := by rw [he]; rfl
    have eloc : env.locals = s.heap.objs.size := by rw [he]; rfl
    have ecells : env.cells = cellsFrom (s.heap.objs.size + 1) fd.scope.names [] := by rw [he]; rfl
    have ekind : ∀ x, env.kindOf x = fd.scope.names.lookup x := fun x => by unfold Env.kindOf; rw [esc]
    have ht' : s.toks ≤ tk := ht
    refine ⟨hnl.keeps hk, codeAny_func (h env (frAdrs fd.scope.names env.locals env.cells) _ esc ⟨?_, ?_⟩)⟩
    · -- G
      refine G.newFr (g.keeps (s' := { s with heap := h', toks := tk }) hk rfl rfl ht') ?_ ?_
      · intro i a e
        have ex : ∃ o, h'.get? a = some o := by
          cases i with
          | zero => rw [frAdrs_0] at e; cases e; obtain ⟨o, _, _, e, _⟩ := y.toInCall.ns; exact ⟨o, e⟩
          | succ i =>
            obtain ⟨x, e1, e2⟩ := frAdrs_s e
            obtain ⟨o, e, _⟩ := y.cell x a e2
            exact ⟨o, e⟩
        have hge : s.heap.objs.size ≤ a := by
          cases i with
          | zero => rw [frAdrs_0] at e; cases e; rw [eloc]; exact Nat.le_refl _
          | succ i =>
            obtain ⟨x, e1, e2⟩ := frAdrs_s e
            have := y.above x a (mem_of_lookup e2)
            rw [eloc] at this; exact Nat.le_of_lt this
        obtain ⟨q1, q2, q3⟩ := g.fresh (none_of_ge hge)
        exact ⟨q1, q2, q3, ex⟩
      · intro i j a e e'
        cases i with
        | zero => cases j with
          | zero => rfl
          | succ j =>
            rw [frAdrs_0] at e; cases e
            obtain ⟨x, e1, e2⟩ := frAdrs_s e'
            exact absurd (y.above x _ (mem_of_lookup e2)) (Nat.lt_irrefl _)
        | succ i => cases j with
          | zero =>
            rw [frAdrs_0] at e'; cases e'
            obtain ⟨x, e1, e2⟩ := frAdrs_s e
            exact absurd (y.above x _ (mem_of_lookup e2)) (Nat.lt_irrefl _)
          | succ j =>
            obtain ⟨x, e1, e2⟩ := frAdrs_s e
            obtain ⟨z, e3, e4⟩ := frAdrs_s e'
            have := name_of_addr y.apart (mem_of_lookup e2) (mem_of_lookup e4)
            subst this
            rw [name_idx hfn.nd e1 e3]
    · refine { kindF := by rw [esc]; exact hfn.kind, glob := by rw [he]; exact hfn.globals, bi := by rw [he]; exact hfn.builtins, nd := hfn.nd, len := by rw [startVars_len hlen (by rw [hfn.np, hfn.nv]; exact hle), hfn.nv],
               l0 := frAdrs_0, kinds := fun x k hx => ⟨fun q => by subst q; exact .inr (by rw [ekind]; exact hx), fun _ => by rw [ekind]; exact hx⟩, ns := ⟨_, y.toInCall.ns, ?_⟩, cell := ?_, free := ?_ }
      · intro i x d e1 e2
        have hd := startVars_get hlen e2
        obtain ⟨v, q1, q2⟩ := rv.get hd
        exact ⟨v, bindL_hit ndZ (hbi i x _ v e1 q1) (by rw [ekind]; exact lookup_idx hfn.nd e1), q2⟩
      · intro i x e1
        have hl := lookup_idx hfn.nd e1
        have := cellsFrom_some fd.scope.names (s.heap.objs.size + 1) [] (x := x) (.inl hl)
        obtain ⟨a, ha⟩ := Option.isSome_iff_exists.mp this
        rw [← ecells] at ha
        refine ⟨a, _, ha, frAdrs_at e1 ha, y.cell x a ha, fun d hd => ?_⟩
        have hd := startVars_get hlen hd
        obtain ⟨v, q1, q2⟩ := rv.get hd
        exact ⟨v, bindC_hit ndZ (hbi i x _ v e1 q1) (by rw [ekind, hl]; intro q; cases q), q2⟩
      · intro i x d e1 _
        exact absurd rfl (hfn.nofree _ (List.mem_of_getElem? e1)).1
end
end Ev
end
section
set_option maxRecDepth 100000
set_option autoImplicit false
set_option linter.all false
namespace Ev
open PySem PySem.W PySem.Calls PyProof.Rows PySem.SeqAt

/-- a def that reads its arguments only: what it answers -/
noncomputable def PureC (c : Cx) (n : Nat) (v : Value) (sp : List D → Option D) : Prop :=
  ∀ ds d, sp ds = some d → ∀ (A : Around) F X s vs Q Ex, Good n A → G c F X [] [] [] s → Rvs c.C F [] vs ds → D.pures ds = true →
    (∀ F' r s', PLe F F' → G c F' X [] [] [] s' → Rv c.C F' [] r d → d.pure = true → Q r s') → wpAny (model c.prog c.w) A (call v vs) Q Ex s
/-- a def that turns its first argument, a list -/
noncomputable def MutC (c : Cx) (n : Nat) (v : Value) (sp : List D → List D → Option (D × List D)) : Prop :=
  ∀ xs ds d ys, sp xs ds = some (d, ys) → ∀ (A : Around) F X s a vs Q Ex, Good n A → G c F X [] [[a]] [some (.lst xs)] s → Rvs c.C F [] vs ds → D.pures ds = true → D.pures xs = true →
    (∀ F' r s', PLe F F' → G c F' X [] [[a]] [some (.lst ys)] s' → Rv c.C F' [] r d → d.pure = true → D.pures ys = true → Q r s') → wpAny (model c.prog c.w) A (call v (.ref a :: vs)) Q Ex s
/-- the class -/
noncomputable def NewC (c : Cx) (n : Nat) (v : Value) (sp : D → Option D) : Prop :=
  ∀ x d, sp x = some d → ∀ (A : Around) F X s u Q Ex, Good n A → G c F X [] [] [] s → Rv c.C F [] u x → x.pure = true →
    (∀ F' r s', PLe F F' → G c F' X [] [] [] s' → Rv c.C F' [] r d → d.pure = true → Q r s') → wpAny (model c.prog c.w) A (call v [u]) Q Ex s

section
variable {c : Cx} {nm : Nm} {X : PMap} {fa : List (Option Addr)} {σ σ' σ1 σ2 σ3 σ4 : Sto} {env : Env} {vars : Vars} {A : Around} {F F' : FM} {ρ : List (List Addr)} {s s' : Shared}

theorem W.unhide {fa2 : List (Option Addr)} {ρ2 : List (List Addr)} {σ2 : Sto} (w : W c nm X env fa F ρ vars σ s) (g' : G c F' (hid (ownedBy fa ρ σ) X s.heap) fa2 ρ2 σ2 s') (le : PLe F F') : W c nm X env fa F' ρ vars σ s' := by
  obtain ⟨g2, hk⟩ := w.g.unhide g' le
  exact ⟨g2, w.f.to le (List.prefix_refl _) fun i a o hi e => hk a o ⟨.fr i, trivial, adrs_fr.mpr hi⟩ e⟩

theorem isGlob_lookup {nm : Nm} {x : Str} (h : isGlob nm x = true) : nm.lookup x = some .globalImplicit ∧ (x == ("__debug__" : Str)) = false := by
  have h' : (match nmIdx nm x with | some (_, .globalImplicit) => !(x == ("__debug__" : Str)) | _ => false) = true := h
  match hq : nmIdx nm x, h' with
  | some (_, .globalImplicit), h' => exact ⟨nmIdx_lookup hq, (Bool.not_eq_true' _).mp (show (!(x == ("__debug__" : Str))) = true from h')⟩

theorem EvV.callP {x : Str} {p pos : Pos} {args : List Expr} {v : Value} {n : Nat} {sp : List D → Option D} {ds : List D} {d : D} (Z : Bas c) (gd : Good n A) (hx : isGlob nm x = true) (hg : nsIn c.K mainGlobals x = some (some v)) (hk : keepIn c.K v = true)
    (hns : (starEach args env).all (!·.1) = true) (ha : EvL c nm X env fa A (spliced (backTo pos (starEach args env))) vars σ ds σ1) (hc : PureC c n v sp) (hp : D.pures ds = true) (e : sp ds = some d) :
    EvV c nm X env fa A (eval (.Call (.Name x p) args [] pos) env) vars σ d σ1 := by
  intro F ρ s Q Ex w post
  obtain ⟨hl, hdb⟩ := isGlob_lookup hx
  refine wpAny_bind (w.f.global Z w.g hl hg hdb ?_)
  refine CallF hk hns (ha F ρ s _ Ex w fun F1 ρ1 vs s1 l1 p1 w1 r1 => ⟨w1.g.K Z, ?_⟩)
  refine hc ds d e A F1 _ s1 vs _ _ gd w1.g.hide (r1.toPure hp) hp fun F2 r s2 l2 g2 r2 hd => ?_
  exact post F2 ρ1 r s2 (l1.trans l2) p1 (w1.unhide g2 l2) (r2.toPure hd)

theorem EvV.callNew {x : Str} {p pos : Pos} {a : Expr} {v : Value} {n : Nat} {sp : D → Option D} {y d : D} (Z : Bas c) (gd : Good n A) (hx : isGlob nm x = true) (hg : nsIn c.K mainGlobals x = some (some v)) (hk : keepIn c.K v = true)
    (hs : starEach [a] env = (false, eval a env) :: starEach [] env) (ha : EvV c nm X env fa A (eval a env) vars σ y σ1) (hc : NewC c n v sp) (hp : y.pure = true) (e : sp y = some d) :
    EvV c nm X env fa A (eval (.Call (.Name x p) [a] [] pos) env) vars σ d σ1 := by
  intro F ρ s Q Ex w post
  obtain ⟨hl, hdb⟩ := isGlob_lookup hx
  refine wpAny_bind (w.f.global Z w.g hl hg hdb ?_)
  refine CallF hk (by rw [hs]; rfl) ((EvL.cons (ds := []) hs ha EvL.nil) F ρ s _ Ex w fun F1 ρ1 vs s1 l1 p1 w1 r1 => ⟨w1.g.K Z, ?_⟩)
  obtain ⟨u, us, rfl, ru, rn⟩ := r1.inv
  obtain rfl := (rn.inv : us = [])
  refine hc y d e A F1 _ s1 u _ _ gd w1.g.hide (ru.toPure hp) hp fun F2 r s2 l2 g2 r2 hd => ?_
  exact post F2 ρ1 r s2 (l1.trans l2) p1 (w1.unhide g2 l2) (r2.toPure hd)

theorem EvV.callMeth {o : Expr} {m : Str} {apos pos : Pos} {args : List Expr} {f : Addr} {n : Nat} {sp : List D → Option D} {as : List (Nat × D)} {ds : List D} {d : D} (Z : Bas c) (gd : Good n A) (hb : plainBase o = true) (hp : (apos.endLine == pos.line) = true) (hn : args.length < 29)
    (hf : findIn c.K (.ref c.C) m = some (some (.ref f))) (ht : isFn c.K (.ref f) = true) (hg : plainGet c.K c.C m = true) (hm : ∀ k, k < 5 → (attrName k == m) = false) (hk : keepIn c.K (.ref f) = true)
    (hns : (starEach args env).all (!·.1) = true) (ho : EvV c nm X env fa A (eval o env) vars σ (.inst as) σ1) (ha : EvL c nm X env fa A (spliced (backTo pos (starEach args env))) vars σ1 ds σ2)
    (hc : PureC c n (.ref f) sp) (hpu : D.pures (.inst as :: ds) = true) (e : sp (.inst as :: ds) = some d) :
    EvV c nm X env fa A (eval (.Call (.Attribute o m apos) args [] pos) env) vars σ d σ2 := by
  intro F ρ s Q Ex w post
  refine MCall hb hp hn hns (ho F ρ s _ Ex w fun F1 ρ1 v1 s1 l1 p1 w1 r1 => fun pl => ?_)
  obtain ⟨b, dd, es, k, rfl, h1, h2, h3⟩ := w1.g.inst r1 rfl
  have I : InstAt s1.heap b (instObj c.C dd) c.C (some (dictOf es k)) := ⟨h1, rfl, rfl, h2⟩
  refine method_fn (w1.g.K Z) I (plainGet_of hg).1 (plainGet_of hg).2 hf (beq_iff_eq.mp ht) (by show (lookIn m (dictOf es k)).map _ = _; rw [lookIn_dict, h3.miss hm]; rfl) ?_
  refine CallF hk hns (ha F1 ρ1 s1 _ Ex w1 fun F2 ρ2 vs s2 l2 p2 w2 r2 => ⟨w2.g.K Z, ?_⟩)
  have rr : Rvs c.C F2 ρ2 (.ref b :: vs) (.inst as :: ds) := .cons (r1.mono l2 p2) r2
  refine hc _ d e A F2 _ s2 _ _ _ gd w2.g.hide (rr.toPure hpu) hpu fun F3 r s3 l3 g3 r3 hd => ?_
  exact post F3 ρ2 r s3 ((l1.trans l2).trans l3) (p1.trans p2) (w2.unhide g3 l3) (r3.toPure hd)

theorem EvV.callM {x : Str} {p pos : Pos} {o : Expr} {args : List Expr} {v : Value} {n : Nat} {sp : List D → List D → Option (D × List D)} {l : Nat} {xs ys ds : List D} {d : D} (Z : Bas c) (gd : Good n A) (hx : isGlob nm x = true) (hg : nsIn c.K mainGlobals x = some (some v)) (hk : keepIn c.K v = true)
    (hns : (starEach (o :: args) env).all (!·.1) = true) (hs : starEach (o :: args) env = (false, eval o env) :: starEach args env)
    (ho : EvV c nm X env fa A (eval o env) vars σ (.loc l) σ1) (ha : EvL c nm X env fa A (spliced (backTo pos (starEach args env))) vars σ1 ds σ2) (hl : σ2[l]? = some (some (.lst xs)))
    (hc : MutC c n v sp) (hp : D.pures ds = true) (hpx : D.pures xs = true) (e : sp xs ds = some (d, ys)) :
    EvV c nm X env fa A (eval (.Call (.Name x p) (o :: args) [] pos) env) vars σ d (σ2.set l (some (.lst ys))) := by
  intro F ρ s Q Ex w post
  obtain ⟨hgl, hdb⟩ := isGlob_lookup hx
  refine wpAny_bind (w.f.global Z w.g hgl hg hdb ?_)
  refine CallF hk hns ((EvL.cons hs ho ha) F ρ s _ Ex w fun F1 ρ1 vs s1 l1 p1 w1 r1 => ⟨w1.g.K Z, ?_⟩)
  obtain ⟨u, vs, rfl, ru, rn⟩ := r1.inv
  obtain ⟨a, ws, k, rfl, q1, q2, q3⟩ := w1.g.live ru hl
  have hm : ObjR c.C F1 [[a]] s1.heap [a] (.lst xs) := .lst q2 (q3.toPure hpx)
  refine hc xs ds d ys e A F1 _ s1 a vs _ _ gd (w1.g.hideBut hl q1 hm) (rn.toPure hp) hp hpx fun F2 r s2 l2 g2 r2 hd hpy => ?_
  obtain ⟨r', h1, h2⟩ := g2.objs 0 _ rfl
  cases (h1 : some [a] = some r')
  obtain ⟨a', ws', k', h3, ho', hs'⟩ := h2.inv
  cases h3
  obtain ⟨g3, hk3⟩ := w1.g.unhideBut hl q1 g2 l2 (.lst ho' (hs'.toPure hpy))
  exact post F2 ρ1 r s2 (l1.trans l2) p1 ⟨g3, w1.f.to l2 (List.prefix_refl _) fun i b o hi e => hk3 b o ⟨i, hi⟩ e⟩ (r2.toPure hd)
end
end Ev
end
section
set_option maxRecDepth 100000
set_option autoImplicit false
set_option linter.all false
namespace Ev
open PySem PySem.W PySem.Calls PyProof.Rows PySem.SeqAt

inductive FlR (c : Cx) (F : FM) (ρ : List (List Addr)) : Flow → Flw → Prop
  | next : FlR c F ρ .next .next
  | brk : FlR c F ρ .brk .brk
  | cont : FlR c F ρ .cont .cont
  | ret {v : Value} {d : D} (r : Rv c.C F ρ v d) : FlR c F ρ (.ret v) (.ret d)
noncomputable def FlS (c : Cx) (F : FM) (ρ : List (List Addr)) (f : Flow) : Flw → Prop
  | .next => f = .next
  | .brk => f = .brk
  | .cont => f = .cont
  | .ret d => ∃ v, f = .ret v ∧ Rv c.C F ρ v d
theorem FlR.inv {c : Cx} {F : FM} {ρ : List (List Addr)} {f : Flow} {fl : Flw} (r : FlR c F ρ f fl) : FlS c F ρ f fl := by
  cases r with
  | next => exact rfl
  | brk => exact rfl
  | cont => exact rfl
  | ret r => exact ⟨_, rfl, r⟩
noncomputable def ExS (c : Cx) (nm : Nm) (X : PMap) (env : Env) (fa : List (Option Addr)) (A : Around) (t : Sem Flow) (vars : Vars) (σ : Sto) (fl : Flw) (vars' : Vars) (σ' : Sto) : Prop :=
  ∀ F ρ s Q Ex, W c nm X env fa F ρ vars σ s → (∀ F' ρ' f s', PLe F F' → ρ <+: ρ' → W c nm X env fa F' ρ' vars' σ' s' → FlR c F' ρ' f fl → Q f s') → wpAny (model c.prog c.w) A t Q Ex s

section
variable {c : Cx} {nm : Nm} {X : PMap} {fa : List (Option Addr)} {σ σ' σ1 σ2 σ3 σ4 : Sto} {env : Env} {vars : Vars} {A : Around} {F F' : FM} {ρ : List (List Addr)} {s s' : Shared}

theorem G.only0 (g : G c F X fa ρ σ s) : G c F X [] [] [] s where
  f := g.f
  x := g.x
  fx := g.fx
  base := g.base
  apart := fun t _ a _ _ h => (noTag h).elim
  own := fun t a _ h => (noTag h).elim
  objs := fun l m e => by simp at e
  len := rfl
  gens := g.gens
  os := g.os
  tpos := g.tpos
  ft := g.ft

theorem ObjR.toPure {ρ' : List (List Addr)} {h : Heap} {r : List Addr} {m : MObj} (o : ObjR c.C F ρ h r m) (hp : m.toD.pure = true) : ObjR c.C F ρ' h r m := by
  cases o with
  | lst ho hs => exact .lst ho (hs.toPure hp)
  | inst ho hd hs => exact .inst ho hd (hs.toPure hp)

theorem G.only1 {r : List Addr} {m : MObj} (g : G c F X fa ρ σ s) (hr : ρ[0]? = some r) (hm : σ[0]? = some (some m)) (hp : m.toD.pure = true) : G c F X [] [r] [some m] s := by
  have tg : ∀ t a, liveT [some m] t → a ∈ adrs [] [r] t → t = .loc 0 ∧ a ∈ r := by
    intro t a h ha
    cases t with
    | fr i => simp [adrs] at ha
    | loc k =>
      cases k with
      | zero => exact ⟨rfl, by simpa [adrs] using ha⟩
      | succ k => simp [adrs] at ha
  refine { f := g.f, x := g.x, fx := g.fx, base := g.base, apart := fun t t' a h h' a1 a2 => by rw [(tg t a h a1).1, (tg t' a h' a2).1], own := fun t a h a1 => ?_, objs := fun k m' e => ?_, len := rfl, gens := g.gens, os := g.os, tpos := g.tpos, ft := g.ft }
  · obtain ⟨rfl, hin⟩ := tg t a h a1
    exact g.own (.loc 0) a ⟨m, hm⟩ (by rw [adrs_loc hr]; exact hin)
  · cases k with
    | zero =>
      simp at e; subst e
      obtain ⟨r', h1, h2⟩ := g.objs 0 _ hm
      rw [hr] at h1; cases h1
      exact ⟨r, rfl, h2.toPure hp⟩
    | succ k => simp at e

/-- the body of a def does what the evaluator says -/
noncomputable def BodyOk (c : Cx) (n : Nat) (nm : Nm) (sc : Scope) (Δ : Dl) (m : Nat) (body : List Stmt) (b : List S) : Prop :=
  ∀ (env : Env) fa A X vars σ fl vars' σ', env.scope = sc → Good n A → exSs Δ m b vars σ = some (fl, vars', σ') → ExS c nm X env fa A (execs body env) vars σ fl vars' σ'

structure FnIn (c : Cx) (C : Cc) (f : Addr) (fd : FuncData) (fn : Fn) (as : List Arg) (body : List Stmt) : Prop where
  ok : FnOk C fd fn as body
  at_ : ∃ oc od sl, c.K.lookup f = some ⟨oc, od, .func fd, sl⟩
  code : codeIn c.K fd.code fd.qualname = true

theorem G.nolim (Z : Bas c) (g : G c F X fa ρ σ s) : s.heap.NoLimit := Z.nolimit.keeps fun b o e => g.f b o (g.base b o e)

theorem endR_inv {o : Option (Flw × Vars × Sto)} {d : Ev.D} (h : endR o = some d) : ∃ v σ, o = some (.ret d, v, σ) := by
  match o, h with
  | some (.ret _, v, σ), h => cases h; exact ⟨v, σ, rfl⟩
theorem endM_inv {o : Option (Flw × Vars × Sto)} {p : Ev.D × Sto} (h : endM o = some p) : ∃ v fl, o = some (fl, v, p.2) ∧ (fl = .ret p.1 ∨ (fl = .next ∧ p.1 = .none)) := by
  match o, h with
  | some (.ret _, v, σ), h => cases h; exact ⟨v, _, rfl, .inl rfl⟩
  | some (.next, v, σ), h => cases h; exact ⟨v, _, rfl, .inr ⟨rfl, rfl⟩⟩
theorem endI_inv {o : Option (Flw × Vars × Sto)} {σ : Sto} (h : endI o = some σ) : ∃ v, o = some (.next, v, σ) := by
  match o, h with
  | some (.next, v, σ), h => cases h; exact ⟨v, rfl⟩
theorem look_get {l : Nat} {m : MObj} (h : look σ l = some m) : σ[l]? = some (some m) := by
  unfold look at h
  match hq : σ[l]?, h with
  | some (some m'), h => cases h; rfl
theorem lookL_inv {ys : List Ev.D} (h : lookL σ = some ys) : σ[0]? = some (some (.lst ys)) := by
  unfold lookL at h
  match hq : look σ 0, h with
  | some (.lst ys'), h => cases h; exact look_get hq
theorem lookI_inv {as : List (Nat × Ev.D)} (h : lookI σ = some as) : σ[0]? = some (some (.inst as)) := by
  unfold lookI at h
  match hq : look σ 0, h with
  | some (.inst as'), h => cases h; exact look_get hq

theorem pureOf {C : Cc} {f : Addr} {fd : FuncData} {fn : Fn} {as : List Arg} {body : List Stmt} {Δ : Dl} {m n : Nat} (Z : Bas c) (h : FnIn c C f fd fn as body) (hb : BodyOk c n fd.scope.names fd.scope Δ m body fn.body) :
    PureC c (n + 1) (.ref f) (runP Δ m fn) := by
  intro ds d e A F X s vs Q Ex gd g rv hp post
  obtain ⟨hc, e⟩ := iteT e
  refine bindE e fun d' e1 e => ?_
  obtain ⟨hd, e⟩ := iteT e
  cases e
  obtain ⟨vars', σ', he⟩ := endR_inv e1
  obtain ⟨oc, od, sl, ho⟩ := h.at_
  refine wpAny_call (enterFn h.ok Z g (g.K Z _ _ ho) rfl (codeRec_of (g.K Z) h.code) (g.nolim Z) gd.room rv (eq_of_beq (and2 hc).1) fun env fa s1 hsc w => ?_)
  refine hb env fa (A.deeper env) X _ _ _ _ _ hsc gd.deeper he F [] s1 _ _ w fun F' ρ' fl s2 le _ w2 r => ?_
  obtain ⟨v, rfl, r2⟩ := r.inv
  exact post F' _ s2 le w2.g.only0 (r2.toPure hd) hd

theorem mutOf {C : Cc} {f : Addr} {fd : FuncData} {fn : Fn} {as : List Arg} {body : List Stmt} {Δ : Dl} {m n : Nat} (Z : Bas c) (h : FnIn c C f fd fn as body) (hb : BodyOk c n fd.scope.names fd.scope Δ m body fn.body) :
    MutC c (n + 1) (.ref f) (runM Δ m fn) := by
  intro xs ds d ys e A F X s a vs Q Ex gd g rv hp hpx post
  obtain ⟨oc, od, sl, ho⟩ := h.at_
  obtain ⟨hc, e⟩ := iteT e
  refine bindE e fun p e1 e => bindE e fun ys' e2 e => ?_
  obtain ⟨hd, e⟩ := iteT e
  obtain ⟨rfl, rfl⟩ := pairI e
  obtain ⟨hd1, hd2⟩ := and2 hd
  obtain ⟨vars', fl, he, hfl⟩ := endM_inv e1
  have rr : Rvs c.C F [[a]] (.ref a :: vs) (.loc 0 :: ds) := .cons (.loc ⟨[], rfl⟩) (rv.toPure hp)
  refine wpAny_call (enterFn h.ok Z g (g.K Z _ _ ho) rfl (codeRec_of (g.K Z) h.code) (g.nolim Z) gd.room rr (eq_of_beq (and2 (and2 hc).1).1) fun env fa s1 hsc w => ?_)
  refine hb env fa (A.deeper env) X _ _ _ _ _ hsc gd.deeper he F _ s1 _ _ w fun F' ρ' fl' s2 le hpre w2 r => ?_
  have hr : ρ'[0]? = some [a] := pre_get hpre rfl
  have g2 : G c F' X [] [[a]] [some (.lst ys')] s2 := w2.g.only1 hr (lookL_inv e2) hd2
  rcases hfl with rfl | ⟨rfl, hn⟩
  · obtain ⟨v, rfl, r2⟩ := r.inv
    exact post F' _ s2 le g2 (r2.toPure hd1) hd1 hd2
  · obtain rfl := (r.inv : fl' = .next)
    exact post F' _ s2 le g2 (by rw [hn]; exact .none) hd1 hd2

theorem Good.under {n : Nat} {args : Args} (gd : Good (n + 1) A) (hw : (Code.builtin "type.__call__" args).frames = 0 := by rfl) : Good n (A.under (.builtin "type.__call__" args)) := by
  have h1 : (Code.builtin "type.__call__" args).weight ≤ 1 := by
    unfold Code.weight
    rw [hw]
    have e1 : (Code.builtin "type.__call__" args).isGuard = false := by show guardIds.contains "type.__call__" = false; decide +kernel
    have e2 : (Code.builtin "type.__call__" args).isCaller = false := by unfold Code.isCaller; rfl
    rw [e1, e2]
    split <;> simp
  have h2 : (Code.builtin "type.__call__" args).cUnits = 1 := by show 1 + 3 * (Code.builtin "type.__call__" args).frames = 1; rw [hw]
  have q1 := gd.depth
  have q2 := gd.units
  exact ⟨gd.hh, by show A.depth + _ + n < _; omega, by show A.units + _ + _ + _ < _; omega⟩

theorem newOf {C : Cc} {f : Addr} {fd : FuncData} {fn : Fn} {as : List Arg} {body : List Stmt} {Δ : Dl} {m n : Nat} (Z : Bas c) (h : FnIn c C f fd fn as body) (hb : BodyOk c n fd.scope.names fd.scope Δ m body fn.body)
    (hm : makesIn c.K c.C = true) (hi : findIn c.K (.ref c.C) "__init__" = some (some (.ref f))) (hf : typeIn c.K (.ref f) = some (.type "function")) :
    NewC c (n + 2) (.ref c.C) (runI Δ m fn) := by
  intro x d e A F X s u Q Ex gd g rv hp post
  obtain ⟨oc, od, sl, ho⟩ := h.at_
  obtain ⟨hc, e⟩ := iteT e
  refine bindE e fun σ' e1 e => bindE e fun as' e2 e => ?_
  obtain ⟨hd, e⟩ := iteT e
  cases e
  obtain ⟨vars', he⟩ := endI_inv e1
  refine wpAny_call ?_
  obtain ⟨hh, gg, dr, t, os⟩ := s
  have XK := g.K Z
  refine make_core (makes_of XK hm) (looks_findIn XK hi) (fun self => bind_fn XK self hf) (.inl rfl) ?_
  have g1 := (g.push emptyDict).push (instObj c.C hh.objs.size)
  have hx : ((hh.push emptyDict).push (instObj c.C hh.objs.size)).get? (hh.objs.size + 1) = some (instObj c.C hh.objs.size) := by
    have := Heap.get?_push_size (hh.push emptyDict) (o := instObj c.C hh.objs.size) rfl
    rwa [Heap.size_push] at this
  have hdx : ((hh.push emptyDict).push (instObj c.C hh.objs.size)).get? hh.objs.size = some (dictOf [] 0) := Heap.get?_push_of_some _ (Heap.get?_push_size hh (o := emptyDict) rfl)
  have g2 := g1.newLoc (r := [hh.objs.size + 1, hh.objs.size]) (m := .inst []) (fun a ha => by
    rcases List.mem_cons.mp ha with rfl | ha
    · obtain ⟨q1, q2, q3⟩ := g.fresh (none_of_ge (Nat.le_succ hh.objs.size))
      exact ⟨q1, q2, q3, _, hx⟩
    · obtain rfl := List.mem_singleton.mp ha
      obtain ⟨q1, q2, q3⟩ := g.fresh (none_of_ge (Nat.le_refl hh.objs.size))
      exact ⟨q1, q2, q3, _, hdx⟩) (.inst hx hdx .nil)
  have rr : Rvs c.C F ([] ++ [[hh.objs.size + 1, hh.objs.size]]) [.ref (hh.objs.size + 1), u] [.loc 0, x] := .cons (.loc ⟨[hh.objs.size], rfl⟩) (.cons (rv.toPure hp) .nil)
  refine enterFn h.ok Z g2 (g2.K Z _ _ ho) rfl (codeRec_of (g2.K Z) h.code) (g2.nolim Z) (Good.under (n := n + 1) gd).room rr (eq_of_beq (and2 hc).1).symm fun env fa s1 hsc w => ?_
  refine hb env fa _ X _ _ _ _ _ hsc (Good.deeper (Good.under (n := n + 1) gd)) he F _ s1 _ _ w fun F' ρ' fl s2 le hpre w2 r => ?_
  obtain rfl := (r.inv : fl = .next)
  refine ⟨rfl, ?_⟩
  have hr : ρ'[0]? = some [hh.objs.size + 1, hh.objs.size] := pre_get hpre rfl
  obtain ⟨F3, l3, g3, r3⟩ := w2.g.freeze (lookI_inv e2) (v := .ref (hh.objs.size + 1)) (.loc ⟨_, hr⟩)
  exact post F3 _ s2 (le.trans l3) g3.only0 (r3.toPure hd) hd
end
end Ev
end
section
set_option maxRecDepth 100000
set_option autoImplicit false
set_option linter.all false
namespace Ev
open PySem PySem.W PySem.Calls PyProof.Rows PySem.SeqAt

section
variable {c : Cx} {nm : Nm} {X : PMap} {fa : List (Option Addr)} {σ σ' σ1 σ2 σ3 σ4 : Sto} {env : Env} {vars vars' vars1 : Vars} {A : Around} {F F' : FM} {ρ ρ' : List (List Addr)} {s s' : Shared} {fl : Flw}

theorem Kp.toks_le (k : Kp s s') : s.toks ≤ s'.toks := k.toks

/-! the short statements -/
theorem ExS.brk {pos : Pos} : ExS c nm X env fa A (exec (.Break pos) env) vars σ .brk vars σ := fun F ρ s Q Ex w post => wpAny_Break (post F ρ _ s PLe.rfl (List.prefix_refl _) w .brk)
theorem ExS.cont {pos : Pos} : ExS c nm X env fa A (exec (.Continue pos) env) vars σ .cont vars σ := fun F ρ s Q Ex w post => wpAny_Continue (post F ρ _ s PLe.rfl (List.prefix_refl _) w .cont)
theorem ExS.nil : ExS c nm X env fa A (execs [] env) vars σ .next vars σ := fun F ρ s Q Ex w post => wpAny_execs_nil (post F ρ _ s PLe.rfl (List.prefix_refl _) w .next)
theorem ExS.cons {st : Stmt} {r : List Stmt} (h : ExS c nm X env fa A (exec st env) vars σ .next vars1 σ1) (hr : ExS c nm X env fa A (execs r env) vars1 σ1 fl vars' σ') : ExS c nm X env fa A (execs (st :: r) env) vars σ fl vars' σ' := by
  intro F ρ s Q Ex w post
  refine wpAny_execs_cons (h F ρ s _ Ex w fun F1 ρ1 f s1 l1 p1 w1 r1 => ?_)
  obtain rfl := (r1.inv : f = .next)
  exact hr F1 ρ1 s1 _ Ex w1 fun F2 ρ2 f s2 l2 p2 w2 r2 => post F2 ρ2 f s2 (l1.trans l2) (p1.trans p2) w2 r2
theorem ExS.stop {st : Stmt} {r : List Stmt} (h : ExS c nm X env fa A (exec st env) vars σ fl vars' σ') (hn : fl ≠ .next) : ExS c nm X env fa A (execs (st :: r) env) vars σ fl vars' σ' := by
  intro F ρ s Q Ex w post
  refine wpAny_execs_cons (h F ρ s _ Ex w fun F1 ρ1 f s1 l1 p1 w1 r1 => ?_)
  cases r1 with
  | next => exact absurd rfl hn
  | brk => exact post F1 ρ1 _ s1 l1 p1 w1 .brk
  | cont => exact post F1 ρ1 _ s1 l1 p1 w1 .cont
  | ret r => exact post F1 ρ1 _ s1 l1 p1 w1 (.ret r)

theorem ExS.ite {t : Expr} {a b : List Stmt} {pos : Pos} {v : Bool} (h : EvB c nm X env fa A (isTrue t env (eval t env)) vars σ v σ1)
    (ha : v = true → ExS c nm X env fa A (execs a env) vars σ1 fl vars' σ') (hb : v = false → ExS c nm X env fa A (execs b env) vars σ1 fl vars' σ') : ExS c nm X env fa A (exec (.If t a b pos) env) vars σ fl vars' σ' := by
  intro F ρ s Q Ex w post
  refine wpAny_If (h F ρ s _ Ex w fun F1 ρ1 s1 l1 p1 w1 => ?_)
  cases v with
  | true => exact ha rfl F1 ρ1 s1 _ Ex w1 fun F2 ρ2 f s2 l2 p2 w2 r2 => post F2 ρ2 f s2 (l1.trans l2) (p1.trans p2) w2 r2
  | false => exact hb rfl F1 ρ1 s1 _ Ex w1 fun F2 ρ2 f s2 l2 p2 w2 r2 => post F2 ρ2 f s2 (l1.trans l2) (p1.trans p2) w2 r2

theorem frz_cases {d d' : D} (e : Ev.frz σ d = some (d', σ')) : (d' = d ∧ σ' = σ) ∨ ∃ l m, d = .loc l ∧ σ[l]? = some (some m) ∧ d' = m.toD ∧ σ' = σ.set l none := by
  cases d with
  | loc l =>
    have h : (match σ[l]? with | some (some m) => some (m.toD, σ.set l none) | _ => none) = some (d', σ') := e
    match hq : σ[l]?, h with
    | some (some m), h => cases h; exact .inr ⟨l, m, rfl, hq, rfl, rfl⟩
  | _ => exact .inl ⟨(pairI e).1.symm, (pairI e).2.symm⟩
theorem W.frz {d d' : D} {v : Value} (w : W c nm X env fa F ρ vars σ s) (r : Rv c.C F ρ v d) (e : Ev.frz σ d = some (d', σ')) : ∃ F', PLe F F' ∧ W c nm X env fa F' ρ vars σ' s ∧ Rv c.C F' ρ v d' := by
  rcases frz_cases e with ⟨rfl, rfl⟩ | ⟨l, m, rfl, hl, rfl, rfl⟩
  · exact ⟨F, PLe.rfl, w, r⟩
  · obtain ⟨F', le, g', r'⟩ := w.g.freeze hl r
    exact ⟨F', le, w.intoG g' le (List.prefix_refl _), r'⟩

theorem ExS.ret {e : Expr} {pos : Pos} {d d' : D} (h : EvV c nm X env fa A (eval e env) vars σ d σ1) (hf : Ev.frz σ1 d = some (d', σ')) : ExS c nm X env fa A (exec (.Return (some e) pos) env) vars σ (.ret d') vars σ' := by
  intro F ρ s Q Ex w post
  refine wpAny_Return_some (h F ρ s _ Ex w fun F1 ρ1 v s1 l1 p1 w1 r1 => ?_)
  obtain ⟨F2, l2, w2, r2⟩ := w1.frz r1 hf
  exact post F2 ρ1 _ s1 (l1.trans l2) p1 w2 (.ret r2)

theorem ExS.expr {e : Expr} {pos : Pos} (h : EvV c nm X env fa A (eval e env) vars σ .none σ1) (hi : interactive env = false) (hs : swapsWith e none pos.line env = pure false) : ExS c nm X env fa A (exec (.Expr e pos) env) vars σ .next vars σ1 := by
  intro F ρ s Q Ex w post
  refine wpAny_Expr (h F ρ s _ Ex w fun F1 ρ1 v s1 l1 p1 w1 r1 => ?_) hi hs
  obtain rfl := (r1.inv : v = .none)
  exact post F1 ρ1 _ s1 l1 p1 w1 .next

/-! while -/
structure WhI (c : Cx) (nm : Nm) (X : PMap) (env : Env) (fa : List (Option Addr)) (F : FM) (ρ : List (List Addr)) (g : Vars → Sto → Option (Flw × Vars × Sto)) (fl : Flw) (vars' : Vars) (σ' : Sto) (s : Shared) : Prop where
  mk ::
  ex : ∃ F1 ρ1 vars1 σ1, PLe F F1 ∧ ρ <+: ρ1 ∧ W c nm X env fa F1 ρ1 vars1 σ1 s ∧ g vars1 σ1 = some (fl, vars', σ')
theorem ExS.wh {t : Expr} {b : List Stmt} {pos : Pos} {k : Nat} {cf : Vars → Sto → Option (Bool × Sto)} {f : Vars → Sto → Option (Flw × Vars × Sto)}
    (hc : ∀ vars σ v σ', cf vars σ = some (v, σ') → EvB c nm X env fa A (isTrue t env (eval t env)) vars σ v σ')
    (hb : ∀ vars σ fl vars' σ', f vars σ = some (fl, vars', σ') → ExS c nm X env fa A (execs b env) vars σ fl vars' σ')
    (e : whD cf f k vars σ = some (fl, vars', σ')) : ExS c nm X env fa A (exec (.While t b [] pos) env) vars σ fl vars' σ' := by
  intro F ρ s Q Ex w post
  refine wpAny_While (codeAny_whileLoop (fun n s => WhI c nm X env fa F ρ (whD cf f n) fl vars' σ' s) ?_ k ⟨⟨F, ρ, vars, σ, PLe.rfl, List.prefix_refl _, w, e⟩⟩)
  rintro n s1 ⟨F1, ρ1, vars1, σ1, l1, p1, w1, e1⟩
  cases n with
  | zero => (first | exact noneE e1 | exact falseE e1 | exact nomatch e1)
  | succ n =>
    refine bindE (show ((cf vars1 σ1).bind fun p => if p.1 = true then (f vars1 p.2).bind fun r => aft r (whD cf f n) else some (.next, vars1, p.2)) = _ from e1) fun p hcv e2 => ?_
    refine hc _ _ _ _ hcv F1 ρ1 s1 _ _ w1 fun F2 ρ2 s2 l2 p2 w2 => ?_
    obtain ⟨v, σ2⟩ := p
    cases v with
    | false =>
      cases e2
      exact wpAny_execs_nil (post F2 ρ2 .next s2 (l1.trans l2) (p1.trans p2) w2 .next)
    | true =>
      refine bindE (show ((f vars1 σ2).bind fun r => aft r (whD cf f n)) = _ from e2) fun q hf e3 => ?_
      obtain ⟨fl2, vars2, σ3⟩ := q
      refine hb _ _ _ _ _ hf F2 ρ2 s2 _ _ w2 fun F3 ρ3 fx s3 l3 p3 w3 r3 => ?_
      have L := (l1.trans l2).trans l3
      have P := (p1.trans p2).trans p3
      cases r3 with
      | next => exact ⟨n, Nat.lt_succ_self _, ⟨F3, ρ3, vars2, σ3, L, P, w3, e3⟩⟩
      | cont => exact ⟨n, Nat.lt_succ_self _, ⟨F3, ρ3, vars2, σ3, L, P, w3, e3⟩⟩
      | brk => cases e3; exact post F3 ρ3 .next s3 L P w3 .next
      | ret r => cases e3; exact post F3 ρ3 _ s3 L P w3 (.ret r)

/-! protected objects, many at once -/
noncomputable def GuardOk (F : FM) (X : PMap) (fa : List (Option Addr)) (ρ : List (List Addr)) (σ : Sto) (wr : List Addr) : Prop := ∀ b ∈ wr, F.o b = none ∧ X b = none ∧ ∀ t, liveT σ t → b ∉ adrs fa ρ t
theorem G.guardL {wr : List Addr} (g : G c F X fa ρ σ s) (h : GuardOk F X fa ρ σ wr) : G c F (hid (· ∈ wr) X s.heap) fa ρ σ s where
  f := g.f
  x := fun b o e => by
    by_cases hb : b ∈ wr
    · rw [hid_pos hb] at e; exact e
    · rw [hid_neg hb] at e; exact g.x b o e
  fx := fun b o e => by
    by_cases hb : b ∈ wr
    · rw [(h b hb).1] at e; cases e
    · rw [hid_neg hb]; exact g.fx b o e
  base := g.base
  apart := g.apart
  own := fun t b l m => by
    obtain ⟨q1, q2, q3⟩ := g.own t b l m
    refine ⟨q1, ?_, q3⟩
    by_cases hb : b ∈ wr
    · exact absurd m ((h b hb).2.2 t l)
    · rw [hid_neg hb]; exact q2
  objs := g.objs
  len := g.len
  gens := g.gens
  os := g.os
  tpos := g.tpos
  ft := g.ft
theorem G.unguardL {wr : List Addr} {h0 : Heap} (hX : ∀ b ∈ wr, X b = none) (hl : ∀ b ∈ wr, ∃ o, h0.get? b = some o) (g : G c F (hid (· ∈ wr) X h0) fa ρ σ s) :
    G c F X fa ρ σ s ∧ (∀ b ∈ wr, ∀ o, h0.get? b = some o → s.heap.get? b = some o) ∧ GuardOk F X fa ρ σ wr := by
  have nx : ∀ b o, X b = some o → ¬ b ∈ wr := fun b o e hb => by rw [hX b hb] at e; cases e
  refine ⟨{ f := g.f, x := fun b o e => g.x b o (by rw [hid_neg (nx b o e)]; exact e), fx := fun b o e => ?_, base := g.base, apart := g.apart, own := fun t b l m => ?_, objs := g.objs, len := g.len, gens := g.gens, os := g.os, tpos := g.tpos, ft := g.ft },
    fun b hb o e => g.x b o (by rw [hid_pos hb]; exact e), fun b hb => ⟨?_, hX b hb, fun t l m => ?_⟩⟩
  · have := g.fx b o e
    by_cases hb : b ∈ wr
    · exact hX b hb
    · rwa [hid_neg hb] at this
  · obtain ⟨q1, q2, q3⟩ := g.own t b l m
    refine ⟨q1, ?_, q3⟩
    by_cases hb : b ∈ wr
    · exact hX b hb
    · rwa [hid_neg hb] at q2
  · cases e : F.o b with
    | none => rfl
    | some o =>
      have := g.fx b o e
      obtain ⟨o', q⟩ := hl b hb
      rw [hid_pos hb, q] at this; cases this
  · have := (g.own t b l m).2.1
    obtain ⟨o', q⟩ := hl b hb
    rw [hid_pos hb, q] at this; cases this

theorem W.guardL {wr : List Addr} (w : W c nm X env fa F ρ vars σ s) (h : GuardOk F X fa ρ σ wr) : W c nm (hid (· ∈ wr) X s.heap) env fa F ρ vars σ s := by
  refine ⟨w.g.guardL h, { w.f with free := ?_ }⟩
  intro i x d h1 h2
  obtain ⟨b, o', v, q1, q2, q3, q4⟩ := w.f.free i x d h1 h2
  have hb : ¬ b ∈ wr := fun hb => by rw [(h b hb).2.1] at q2; cases q2
  exact ⟨b, o', v, q1, by rw [hid_neg hb]; exact q2, q3, q4⟩
theorem W.unguardL {wr : List Addr} {h0 : Heap} (hX : ∀ b ∈ wr, X b = none) (hl : ∀ b ∈ wr, ∃ o, h0.get? b = some o ∧ ∀ w, o.data ≠ .cell w) (w : W c nm (hid (· ∈ wr) X h0) env fa F ρ vars σ s) :
    W c nm X env fa F ρ vars σ s ∧ (∀ b ∈ wr, ∀ o, h0.get? b = some o → s.heap.get? b = some o) ∧ GuardOk F X fa ρ σ wr := by
  obtain ⟨g, k, q⟩ := w.g.unguardL hX fun b hb => let ⟨o, e, _⟩ := hl b hb; ⟨o, e⟩
  refine ⟨⟨g, { w.f with free := ?_ }⟩, k, q⟩
  intro i x d h1 h2
  obtain ⟨b, o', v, q1, q2, q3, q4⟩ := w.f.free i x d h1 h2
  by_cases hb : b ∈ wr
  · obtain ⟨o, e, hn⟩ := hl b hb
    rw [hid_pos hb, e] at q2; cases q2
    exact absurd q3 (hn _)
  · exact ⟨b, o', v, q1, by rwa [hid_neg hb] at q2, q3, q4⟩
end
end Ev
end
section
set_option maxRecDepth 100000
set_option autoImplicit false
set_option linter.all false
namespace Ev
open PySem PySem.W PySem.Calls PyProof.Rows PySem.SeqAt

section
variable {prog : Program} {w : World} {A : Around} {E : Value → Shared → Prop} {s : Shared}
theorem draw_list {it t : Addr} {items : Array Value} (hne : t ≠ it) : ∀ (n i : Nat) (s : Shared) (Q : List Value → Shared → Prop), s.heap.IsListIter it t i → s.heap.IsList t items → i + n ≤ items.size →
    (∀ h', h'.IsListIter it t (i + n) → Heap.SameBut it s.heap h' → Q ((items.toList.drop i).take n) { s with heap := h' }) → wpAny (model prog w) A (draw (.ref it) n) Q E s
  | 0, i, s, Q, hit, _, _, hQ => by
    show wpAny _ _ (pure []) Q E s
    exact wpAny_pure (by simpa using hQ s.heap hit (Heap.SameBut.refl ..))
  | n + 1, i, s, Q, hit, ht, hle, hQ => by
    have hlt : i < items.size := by omega
    show wpAny _ _ (pyNext (.ref it) >>= _) Q E s
    refine wpAny_bind (wpAny_pyNext_list_item hit ht (x := items[i]) (by simp [hlt]) fun h₁ hit₁ hs₁ => ?_)
    refine wpAny_bind (wpAny_holding (draw_list hne n (i + 1) _ _ hit₁ (ht.extBut hs₁.extBut hne) (by omega) fun h₂ hit₂ hs₂ => wpAny_pure ?_))
    have hd : items.toList.drop i = items[i] :: items.toList.drop (i + 1) := by simp [List.drop_eq_getElem_cons, hlt]
    have := hQ h₂ (by rw [show i + (n + 1) = i + 1 + n by omega]; exact hit₂) (hs₁.trans hs₂)
    rw [hd, List.take_succ_cons] at this
    exact this
theorem unpackItems_list {t : Addr} {items : Array Value} {Q : List Value → Shared → Prop} (hh : A.handled = none) (ht : s.heap.IsList t items)
    (hQ : ∀ h', Heap.ExtBut s.heap.objs.size s.heap h' → Q items.toList { s with heap := h' }) : wpAny (model prog w) A (unpackItems (.ref t) items.size none) Q E s := by
  have hlt : t ≠ s.heap.objs.size := by obtain ⟨o, ho, _⟩ := ht; exact Nat.ne_of_lt (Heap.lt_size ho)
  unfold unpackItems
  refine wpAny_bind ?_
  unfold notIterableAtAll
  refine wpAny_bind (wpAny_specialOf ht.typeIs slot_list_iter.lookup ?_)
  refine wpAny_pure ?_
  simp only [Bool.false_eq_true, if_false]
  refine wpAny_bind (wpAny_holding (wpAny_pyIter_list ht ?_))
  refine wpAny_bind (wpAny_holding (draw_list hlt items.size 0 _ _ ⟨_, Heap.get?_push_size _ rfl, rfl, rfl⟩ (ht.push _) (by omega) fun h₁ hit₁ hs₁ => ?_))
  have hall : List.take items.size (List.drop 0 items.toList) = items.toList := by
    rw [List.drop_zero]; exact List.take_of_length_le (by simp)
  rw [hall]
  rw [if_neg (by simp)]
  have ht₁ : h₁.IsList t items := (ht.push _).extBut hs₁.extBut hlt
  refine wpAny_bind (wpAny_holding (wpAny_pyNext_list_end hh hit₁ ht₁ (by simp) fun h₂ he₂ => ?_))
  simp only [Option.isSome_none, Bool.false_eq_true, if_false]
  refine wpAny_pure (hQ h₂ fun b o hb e => he₂ b o hb (hs₁.extBut b o hb (Heap.get?_push_of_some _ e)))
end

/-- storing a value -/
noncomputable def EvA (c : Cx) (nm : Nm) (X : PMap) (env : Env) (fa : List (Option Addr)) (A : Around) (t : Value → Sem Unit) (d : D) (vars vars' : Vars) : Prop :=
  ∀ F ρ σ s v Q Ex, W c nm X env fa F ρ vars σ s → Rv c.C F ρ v d → (∀ s', W c nm X env fa F ρ vars' σ s' → Q () s') → wpAny (model c.prog c.w) A (t v) Q Ex s

theorem setVar_inv {vars vars' : Vars} {i : Nat} {d : D} (e : setVar vars i d = some vars') : i < vars.length ∧ vars' = vars.set i (some d) := by
  unfold setVar at e; split at e
  · rename_i h; cases e; exact ⟨h, rfl⟩
  · cases e
theorem compTgt_idx {nm : Nm} {x : Str} {i : Nat} (e : compTgt nm x = some i) : ∃ k, nmIdx nm x = some (i, k) ∧ (k = .local ∨ k = .cell) := by
  unfold compTgt at e
  split at e
  · rename_i j h; cases e; exact ⟨_, h, .inl rfl⟩
  · rename_i j h; cases e; exact ⟨_, h, .inr rfl⟩
  · cases e

section
variable {c : Cx} {nm : Nm} {X : PMap} {fa : List (Option Addr)} {σ σ' σ1 : Sto} {env : Env} {vars vars' vars1 : Vars} {A : Around} {F F' : FM} {ρ ρ' : List (List Addr)} {s s' : Shared}

theorem EvA.store {x : Str} {i : Nat} {d : D} (e : compTgt nm x = some i) (h : setVar vars i d = some vars') : EvA c nm X env fa A (fun v => storeName env x v) d vars vars' := by
  intro F ρ σ s v Q Ex w r post
  obtain ⟨k, h1, h2⟩ := compTgt_idx e
  obtain ⟨h3, rfl⟩ := setVar_inv h
  exact w.f.store w.g (nmIdx_get h1) h2 r fun s' g f => post s' ⟨g, f⟩
theorem EvA.bind {x : Str} {i : Nat} {d : D} (e : compTgt nm x = some i) (h : setVar vars i d = some vars') : EvA c nm X env fa A (bindName env x) d vars vars' :=
  fun F ρ σ s v Q Ex w r post => wpAny_bindName (EvA.store e h F ρ σ s v Q Ex w r post)
theorem EvA.name {x : Str} {p : Pos} {i : Nat} {d : D} (e : compTgt nm x = some i) (h : setVar vars i d = some vars') : EvA c nm X env fa A (assign (.Name x p) env) d vars vars' :=
  fun F ρ σ s v Q Ex w r post => wpAny_assign_Name (EvA.store e h F ρ σ s v Q Ex w r post)

theorem wpAny_assignInOrder {es : List (Value → Sem Unit)} {ds : List D} : ∀ {is : List Nat} {vs : List Value} {vars vars' : Vars} {s : Shared} {σ : Sto} {F : FM} {ρ : List (List Addr)} {Q : Unit → Shared → Prop} {Ex : Value → Shared → Prop},
    es.length = is.length → (∀ (k : Nat) t i, es[k]? = some t → is[k]? = some i → ∀ vars vars' d, setVar vars i d = some vars' → EvA c nm X env fa A t d vars vars') →
    W c nm X env fa F ρ vars σ s → Rvs c.C F ρ vs ds → setVars vars is ds = some vars' → (∀ s', W c nm X env fa F ρ vars' σ s' → Q () s') → wpAny (model c.prog c.w) A (assignInOrder es vs) Q Ex s := by
  induction es generalizing ds with
  | nil =>
    intro is vs vars vars' s σ F ρ Q Ex hl ht w r e post
    cases is with
    | cons i is => simp at hl
    | nil =>
      cases r with
      | nil => simp [setVars] at e; subst e; unfold assignInOrder; exact wpAny_pure (post s w)
      | cons _ _ => simp [setVars] at e
  | cons t es ih =>
    intro is vs vars vars' s σ F ρ Q Ex hl ht w r e post
    cases is with
    | nil => simp at hl
    | cons i is =>
      cases r with
      | nil => simp [setVars] at e
      | @cons v d vs ds r rs =>
        unfold setVars at e
        obtain ⟨vars1, e1, e2⟩ := Option.bind_eq_some_iff.mp e
        unfold assignInOrder
        refine wpAny_bind (wpAny_holding (ht 0 t i rfl rfl _ _ _ e1 F ρ σ s v _ Ex w r fun s1 w1 => ?_))
        exact ih (by simpa using hl) (fun k t' i' a b => ht (k + 1) t' i' (by simpa using a) (by simpa using b)) w1 rs e2 post

theorem isTs_get : ∀ {es : List Expr} {is : List Nat}, isT.isTs nm is es = true →
    es.length = is.length ∧ (assignEach es env).length = is.length ∧ (assignEach es env).findIdx? (·.1) = none ∧ (∀ (k : Nat) t i, ((assignEach es env).map (·.2))[k]? = some t → is[k]? = some i → ∃ x p, es[k]? = some (.Name x p) ∧ t = assign (.Name x p) env ∧ compTgt nm x = some i)
  | [], [], h => ⟨rfl, rfl, rfl, fun k t i a _ => by cases a⟩
  | [], _ :: _, h => by first | exact noneE h | exact falseE h | exact nomatch h
  | _ :: _, [], h => by first | exact noneE h | exact falseE h | exact nomatch h
  | e :: es, i :: is, h => by
    obtain ⟨h1, h3⟩ := Bool.and_eq_true_iff.mp h
    obtain ⟨q1, q2, q3, q4⟩ := isTs_get h3
    obtain ⟨x, p, rfl, hx⟩ : ∃ x p, e = .Name x p ∧ compTgt nm x = some i := by
      split at h1
      · exact ⟨_, _, rfl, eq_of_beq h1⟩
      · cases h1
    refine ⟨congrArg (· + 1) q1, congrArg (· + 1) q2, ?_, ?_⟩
    · show List.findIdx? _ ((false, assign (.Name x p) env) :: assignEach es env) = none
      rw [List.findIdx?_cons, q3]; rfl
    · intro k t j a b
      cases k with
      | zero =>
        have a' : some (assign (.Name x p) env) = some t := a
        have b' : some i = some j := b
        cases a'; cases b'
        exact ⟨x, p, rfl, rfl, hx⟩
      | succ k => exact q4 k t j a b
theorem isT_var {i : Nat} {t : Expr} (h : isT nm (.var i) t = true) : ∃ x p, t = .Name x p ∧ compTgt nm x = some i := by
  unfold isT at h
  dsimp only at h
  split at h
  · exact ⟨_, _, rfl, eq_of_beq h⟩
  · cases h
theorem isT_tup {is : List Nat} {t : Expr} (h : isT nm (.tup is) t = true) : ∃ es n p, t = .Tuple es n p ∧ isT.isTs nm is es = true := by
  unfold isT at h
  dsimp only at h
  split at h
  · exact ⟨_, _, _, rfl, h⟩
  · cases h
/-- what a tuple's targets are given: its items -/
noncomputable def seqOf : D → Option (List D)
  | .tup ds => some ds
  | .lst ds => some ds
  | _ => none
theorem asgT_tup {is : List Nat} {d : D} (h : asgT (.tup is) d vars = some vars') : ∃ ds, (d = .tup ds ∨ d = .lst ds) ∧ is.length = ds.length ∧ setVars vars is ds = some vars' := by
  cases d with
  | tup ds =>
    have h' : (if (is.length == ds.length) = true then setVars vars is ds else none) = some vars' := h
    split at h'
    · rename_i hl; exact ⟨ds, .inl rfl, eq_of_beq hl, h'⟩
    · cases h'
  | lst ds =>
    have h' : (if (is.length == ds.length) = true then setVars vars is ds else none) = some vars' := h
    split at h'
    · rename_i hl; exact ⟨ds, .inr rfl, eq_of_beq hl, h'⟩
    · cases h'
  | _ => (first | exact noneE h | exact falseE h | exact nomatch h)

theorem EvA.target (hh : A.handled = none) {t : Expr} {T : Ev.T} {d : D} (e : isT nm T t = true) (h : asgT T d vars = some vars') : EvA c nm X env fa A (assign t env) d vars vars' := by
  cases T with
  | var i =>
    obtain ⟨x, p, rfl, h1⟩ := isT_var e
    exact EvA.name h1 h
  | tup is =>
    obtain ⟨es, n, p, rfl, h1⟩ := isT_tup e
    obtain ⟨q1, q2, q3, q4⟩ := isTs_get (env := env) h1
    have step : ∀ (k : Nat) t i, ((assignEach es env).map (·.2))[k]? = some t → is[k]? = some i → ∀ vars vars' d, setVar vars i d = some vars' → EvA c nm X env fa A t d vars vars' := by
      intro k t i a b vars vars' d hs
      obtain ⟨x, p, _, rfl, hx⟩ := q4 k t i a b
      exact EvA.name hx hs
    intro F ρ σ s v Q Ex w r post
    obtain ⟨ds, hd, hlen, h2⟩ := asgT_tup h
    clear h
    rcases hd with rfl | rfl
    · obtain ⟨a, vs, rfl, hl, hs⟩ := w.g.tuple (.old r)
      have hsz : (assignEach es env).length = vs.toArray.size := by rw [q2, hlen, ← hs.length]; rfl
      refine wpAny_assign_Tuple hh hl hsz q3 fun h' he => ?_
      have w' : W c nm X env fa F ρ vars σ { s with heap := h' } := w.keep (Kp.mk' (tk := s.toks) (fun b o e => he b o (Nat.ne_of_lt (Heap.lt_size e)) e) (Nat.le_refl _))
      exact wpAny_assignInOrder (by rw [List.length_map, q2]) step w' hs h2 post
    · obtain ⟨a, vs, rfl, hl, hs⟩ := w.g.list (.old r)
      have hsz : (assignEach es env).length = vs.toArray.size := by rw [q2, hlen, ← hs.length]; rfl
      rw [arm_assign_Tuple]
      refine wpAny_bind (wpAny_standAt ?_)
      unfold unpack
      rw [hsz, q3]
      refine wpAny_bind (wpAny_holding (unpackItems_list hh hl fun h' he => ?_))
      have w' : W c nm X env fa F ρ vars σ { s with heap := h' } := w.keep (Kp.mk' (tk := s.toks) (fun b o e => he b o (Nat.ne_of_lt (Heap.lt_size e)) e) (Nat.le_refl _))
      exact wpAny_assignInOrder (by rw [List.length_map, q2]) step w' hs h2 post

theorem assignEach_cons {t : Expr} {ts : List Expr} {T : Ev.T} (h1 : isT nm T t = true) : assignEach (t :: ts) env = (false, assign t env) :: assignEach ts env := by
  cases T with
  | var i => obtain ⟨x, p, rfl, _⟩ := isT_var h1; rfl
  | tup is => obtain ⟨es, n, p, rfl, _⟩ := isT_tup h1; rfl

theorem wpAny_assignAll (hh : A.handled = none) : ∀ {ts : List Expr} {Ts : List Ev.T} {d : D} {v : Value} {vars vars' : Vars} {s : Shared} {σ : Sto} {F : FM} {ρ : List (List Addr)} {Q : Unit → Shared → Prop} {Ex : Value → Shared → Prop},
    chkTs nm Ts ts = true → asgTs Ts d vars = some vars' → W c nm X env fa F ρ vars σ s → Rv c.C F ρ v d → (∀ s', W c nm X env fa F ρ vars' σ s' → Q () s') →
    wpAny (model c.prog c.w) A (assignAll v ((assignEach ts env).map (·.2))) Q Ex s
  | [], [], d, v, vars, vars', s, σ, F, ρ, Q, Ex, hc, h, w, r, post => by
    have h' : some vars = some vars' := h
    cases h'
    exact wpAny_pure (post s w)
  | [], _ :: _, d, v, vars, vars', s, σ, F, ρ, Q, Ex, hc, h, w, r, post => by first | exact noneE hc | exact falseE hc | exact nomatch hc
  | _ :: _, [], d, v, vars, vars', s, σ, F, ρ, Q, Ex, hc, h, w, r, post => by first | exact noneE hc | exact falseE hc | exact nomatch hc
  | t :: ts, T :: Ts, d, v, vars, vars', s, σ, F, ρ, Q, Ex, hc, h, w, r, post => by
    obtain ⟨h1, h3⟩ := Bool.and_eq_true_iff.mp hc
    obtain ⟨vars1, h5, h6⟩ := Option.bind_eq_some_iff.mp (h : (asgT T d vars).bind (asgTs Ts d) = some vars')
    have one := EvA.target (c := c) (X := X) (fa := fa) (env := env) (A := A) hh h1 h5
    rw [assignEach_cons (env := env) (ts := ts) h1]
    match ts, Ts, h3, h6 with
    | [], [], h3, h6 =>
      have h' : some vars1 = some vars' := h6
      cases h'
      exact one F ρ σ s v Q Ex w r post
    | [], _ :: _, h3, h6 => (first | exact noneE h3 | exact falseE h3 | exact nomatch h3)
    | _ :: _, [], h3, h6 => (first | exact noneE h3 | exact falseE h3 | exact nomatch h3)
    | t' :: ts', T' :: Ts', h3, h6 =>
      have ih : ∀ s1, W c nm X env fa F ρ vars1 σ s1 → wpAny (model c.prog c.w) A (assignAll v ((assignEach (t' :: ts') env).map (·.2))) Q Ex s1 := fun s1 w1 => wpAny_assignAll hh h3 h6 w1 r post
      rw [assignEach_cons (env := env) (ts := ts') (Bool.and_eq_true_iff.mp h3).1] at ih ⊢
      exact wpAny_bind (wpAny_holding (one F ρ σ s v _ Ex w r fun s1 w1 => ih s1 w1))
end
end Ev
end
section
set_option maxRecDepth 100000
set_option autoImplicit false
set_option linter.all false
namespace Ev
open PySem PySem.W PySem.Calls PyProof.Rows PySem.SeqAt

/-! the order of the stores -/
theorem setVars_snoc : ∀ {is : List Nat} {ds : List D} {vars : Vars} {i : Nat} {d : D}, is.length = ds.length → setVars vars (is ++ [i]) (ds ++ [d]) = (setVars vars is ds).bind fun v => setVar v i d
  | [], [], vars, i, d, _ => by
    show (setVar vars i d).bind (fun v => setVars v [] []) = _
    cases h : setVar vars i d <;> simp [setVars, h]
  | [], _ :: _, _, _, _, h => by simp at h
  | _ :: _, [], _, _, _, h => by simp at h
  | j :: is, e :: ds, vars, i, d, h => by
    show (setVar vars j e).bind (fun v => setVars v (is ++ [i]) (ds ++ [d])) = ((setVar vars j e).bind fun v => setVars v is ds).bind fun v => setVar v i d
    rw [Option.bind_assoc]
    congr 1; funext v
    exact setVars_snoc (by simpa using h)
theorem setVar_comm {vars : Vars} {i j : Nat} {a b : D} (h : i ≠ j) : ((setVar vars i a).bind fun v => setVar v j b) = ((setVar vars j b).bind fun v => setVar v i a) := by
  unfold setVar
  by_cases hi : i < vars.length <;> by_cases hj : j < vars.length <;> simp [hi, hj, List.set_comm _ _ h]
theorem setVars_out : ∀ {is : List Nat} {ds : List D} {vars : Vars} {i : Nat} {d : D}, i ∉ is → ((setVar vars i d).bind fun v => setVars v is ds) = ((setVars vars is ds).bind fun v => setVar v i d)
  | [], [], vars, i, d, _ => by simp [setVars]
  | [], _ :: _, vars, i, d, _ => by simp [setVars]
  | _ :: _, [], vars, i, d, _ => by simp [setVars]
  | j :: is, e :: ds, vars, i, d, h => by
    simp only [List.mem_cons, not_or] at h
    show ((setVar vars i d).bind fun v => (setVar v j e).bind fun v => setVars v is ds) = (((setVar vars j e).bind fun v => setVars v is ds).bind fun v => setVar v i d)
    rw [← Option.bind_assoc, setVar_comm h.1, Option.bind_assoc, Option.bind_assoc]
    congr 1; funext v
    exact setVars_out h.2
theorem setVars_rev : ∀ {is : List Nat} {ds : List D} {vars : Vars}, is.Nodup → is.length = ds.length → setVars vars is.reverse ds.reverse = setVars vars is ds
  | [], [], _, _, _ => rfl
  | [], _ :: _, _, _, h => by simp at h
  | _ :: _, [], _, _, h => by simp at h
  | i :: is, d :: ds, vars, nd, h => by
    simp only [List.nodup_cons] at nd
    have hl : is.length = ds.length := by simpa using h
    rw [List.reverse_cons, List.reverse_cons, setVars_snoc (by simpa using hl), setVars_rev nd.2 hl, ← setVars_out nd.1]
    rfl

section
variable {c : Cx} {nm : Nm} {X : PMap} {fa : List (Option Addr)} {σ σ' σ1 σ2 σ3 : Sto} {env : Env} {vars vars' vars1 : Vars} {A : Around} {F F' : FM} {ρ ρ' : List (List Addr)} {s s' : Shared}

theorem nodup23 {names : List Str} (h : names.length = 2 ∨ names.length = 3) (e : names.eraseDups.length = names.length) : names.Nodup := by
  rcases h with h | h
  · match names, h with
    | [a, b], _ =>
      have : a ≠ b := by
        intro q; subst q
        simp [List.eraseDups_cons] at e
      simp [this]
  · match names, h with
    | [a, b, d], _ =>
      have h1 : a ≠ b := by
        intro q; subst q
        by_cases q2 : d = a
        · subst q2; simp [List.eraseDups_cons] at e
        · simp [List.eraseDups_cons, q2] at e
      have h2 : a ≠ d := by
        intro q; subst q
        have h1' : ¬ b = a := fun q => h1 q.symm
        simp [List.eraseDups_cons, h1'] at e
      have h3 : b ≠ d := by
        intro q; subst q
        have h1' : ¬ b = a := fun q => h1 q.symm
        simp [List.eraseDups_cons, h1'] at e
      simp [h1, h2, h3]

theorem filterMap_all {α β : Type} {f : α → Option β} : ∀ {l : List α}, (l.filterMap f).length = l.length → ∀ (k : Nat) x, l[k]? = some x → ∃ y, f x = some y ∧ (l.filterMap f)[k]? = some y
  | [], _, k, x, h => by simp at h
  | a :: l, hl, k, x, h => by
    rw [List.filterMap_cons] at hl ⊢
    cases e : f a with
    | none =>
      rw [e] at hl
      have := List.length_filterMap_le f l
      rw [List.length_cons] at hl
      dsimp only at hl
      omega
    | some y =>
      rw [e] at hl
      rw [List.length_cons, List.length_cons] at hl
      have hl := Nat.succ.inj hl
      cases k with
      | zero => simp at h; subst h; exact ⟨y, e, rfl⟩
      | succ k =>
        obtain ⟨z, q1, q2⟩ := filterMap_all hl k x (by simpa using h)
        exact ⟨z, q1, by simpa using q2⟩

/-- a tuple onto a tuple: as it comes, or in the opposite order by name -/
theorem swapped_tup {ts vs : List Expr} {n m : Nat} {p q : Pos} (hk : (vs.all (foldedForSure 8) || !(vs.all (constantsAlone 8))) = true) (hb : env.blockKind = .function) :
    swappedStores [.Tuple ts n p] (.Tuple vs m q) env = pure none ∨
    ∃ names : List Str, swappedStores [.Tuple ts n p] (.Tuple vs m q) env = pure (some names) ∧ names.Nodup ∧ names.length = ts.length ∧ ∀ (k : Nat) t, ts[k]? = some t → ∃ x pp, t = .Name x pp ∧ names[k]? = some x := by
  unfold swappedStores
  dsimp only
  split
  · exact .inl rfl
  · rename_i h1
    split
    · exact .inl rfl
    rename_i hst
    split
    · exact .inl rfl
    · rename_i h2
      split
      · exact .inl rfl
      · rename_i h3
        split
        · rename_i h4
          exfalso
          rw [h4] at hk
          simp only [Bool.not_true, Bool.or_false] at hk
          exact h3 hk
        · right
          refine ⟨_, rfl, ?_⟩
          rw [Bool.or_eq_true, not_or] at h1 h2
          have hd := Decidable.byContradiction (fun z => h2.1 (bne_iff_ne.mpr z))
          have he := Decidable.byContradiction (fun z => h2.2 (bne_iff_ne.mpr z))
          have ha := h1.1
          rw [Bool.or_eq_true, not_or] at ha
          have ha := ha.1
          have hlen : ts.length = 2 ∨ ts.length = 3 := by
            by_cases q2 : ts.length = 2
            · exact .inl q2
            · right
              by_cases q3 : ts.length = 3
              · exact q3
              · exact absurd (by simp [q2, q3]) ha
          refine ⟨nodup23 (by rw [hd]; exact hlen) he, hd, fun k t hkt => ?_⟩
          obtain ⟨y, q1, q2⟩ := filterMap_all hd k t hkt
          split at q1
          · rename_i id pos
            split at q1
            · cases q1; exact ⟨_, _, rfl, q2⟩
            · cases q1
          · cases q1

theorem ExS.asg {ts : List Expr} {Ts : List Ev.T} {v : Expr} {pos : Pos} {d : D} (hh : A.handled = none) (hkf : env.scope.kind = .function) (ho : asgOk v = true) (ht : chkTs nm Ts ts = true)
    (hs : swapsWithSole ts v pos.line env = pure false) (h : EvV c nm X env fa A (eval v env) vars σ d σ1) (e : asgTs Ts d vars = some vars') : ExS c nm X env fa A (exec (.Assign ts v pos) env) vars σ .next vars' σ1 := by
  have hbk : env.blockKind = .function := by unfold Env.blockKind; rw [hkf]; rfl
  have plain : swappedStores ts v env = pure none → ExS c nm X env fa A (exec (.Assign ts v pos) env) vars σ .next vars' σ1 := by
    intro hw F ρ s Q Ex w post
    refine wpAny_Assign_stores (h F ρ s _ Ex w fun F1 ρ1 u s1 l1 p1 w1 r1 => ?_) hs hw
    exact wpAny_assignAll hh ht e w1 r1 fun s2 w2 => post F1 ρ1 _ s2 l1 p1 w2 .next
  by_cases hsh : ∃ es n p vs m q, ts = [.Tuple es n p] ∧ v = .Tuple vs m q
  · obtain ⟨es, n, p, vs, m, q, rfl, rfl⟩ := hsh
    rcases swapped_tup (ts := es) (n := n) (m := m) (p := p) (q := q) ho hbk with hw | ⟨names, hw, hnd, hln, hget⟩
    · exact plain hw
    · intro F ρ s Q Ex w post
      rw [exec_Assign_arm]
      refine wpAny_bind (wpAny_standAt ?_)
      rw [hs]
      refine wpAny_bind (wpAny_pure ?_)
      rw [if_neg (by decide)]
      refine wpAny_bind (h F ρ s _ Ex w fun F1 ρ1 u s1 l1 p1 w1 r1 => ?_)
      rw [hw]
      refine wpAny_bind (wpAny_pure ?_)
      match Ts, ht, e with
      | [], ht, e => (first | exact noneE ht | exact falseE ht | exact nomatch ht)
      | _ :: _ :: _, ht, e => exact nomatch (Bool.and_eq_true_iff.mp ht).2
      | [T], ht, e =>
      obtain ⟨vars2, e1, e2⟩ := Option.bind_eq_some_iff.mp (e : (asgT T d vars).bind (asgTs [] d) = some vars')
      have e2' : some vars2 = some vars' := e2
      cases e2'
      cases T with
      | var i => obtain ⟨x, p', hx, _⟩ := isT_var (Bool.and_eq_true_iff.mp ht).1; cases hx
      | tup is =>
      obtain ⟨es', n', p', hx, h3⟩ := isT_tup (Bool.and_eq_true_iff.mp ht).1
      cases hx
      obtain ⟨q1, q2, q3, q4⟩ := isTs_get (env := env) h3
      -- each name and its number
      have num : ∀ (k : Nat) x i, names[k]? = some x → is[k]? = some i → compTgt nm x = some i := by
        intro k x i a b
        have hk : k < (assignEach es env).length := by rw [q2]; exact (List.getElem?_eq_some_iff.mp b).1
        obtain ⟨t, ht'⟩ : ∃ t, ((assignEach es env).map (·.2))[k]? = some t := ⟨_, List.getElem?_eq_some_iff.mpr ⟨by simpa using hk, rfl⟩⟩
        obtain ⟨y, pp, z1, _, z2⟩ := q4 k t i ht' b
        obtain ⟨y', pp', z3, z4⟩ := hget k _ z1
        cases z3
        rw [a] at z4; cases z4
        exact z2
      have hnl : names.length = is.length := by rw [hln, q1]
      have hnI : is.Nodup := by
        refine List.pairwise_iff_getElem.mpr fun i j hi hj hij heq' => ?_
        have hxi : names[i]? = some (names[i]'(by omega)) := List.getElem?_eq_getElem (by omega)
        have hxj : names[j]? = some (names[j]'(by omega)) := List.getElem?_eq_getElem (by omega)
        have a1 := num i _ _ hxi (List.getElem?_eq_getElem hi)
        have a2 := num j _ _ hxj (List.getElem?_eq_getElem hj)
        rw [heq'] at a1
        obtain ⟨k1, b1, _⟩ := compTgt_idx a1
        obtain ⟨k2, b2, _⟩ := compTgt_idx a2
        have c1 := nmIdx_get b1
        have c2 := nmIdx_get b2
        rw [c1] at c2
        simp only [Option.some.injEq, Prod.mk.injEq] at c2
        exact List.pairwise_iff_getElem.mp hnd i j (by omega) (by omega) hij c2.1
      show wpAny _ _ (rule "assign.swapped-stores" >>= fun _ => unpackItems u names.length none >>= fun items => assignInOrder (names.reverse.map fun n => bindName env n) items.reverse >>= fun _ => (pure Flow.next : Sem Flow)) _ _ _
      refine wpAny_bind (wpAny_rule ?_)
      have fin : ∀ (vs' : List Value) (ds : List D) (s2 : Shared), W c nm X env fa F1 ρ1 vars σ1 s2 → Rvs c.C F1 ρ1 vs' ds → is.length = ds.length → setVars vars is ds = some vars' →
          wpAny (model c.prog c.w) A (assignInOrder (names.reverse.map fun n => bindName env n) vs'.reverse >>= fun _ => (pure Flow.next : Sem Flow)) Q Ex s2 := by
        intro vs' ds s2 w2 rs hl hsv
        have hrev : Rvs c.C F1 ρ1 vs'.reverse ds.reverse := by
          have : ∀ {vs : List Value} {xs : List D}, Rvs c.C F1 ρ1 vs xs → Rvs c.C F1 ρ1 vs.reverse xs.reverse := by
            intro vs
            induction vs with
            | nil => intro xs h; cases h; exact .nil
            | cons v vs ih => intro xs h; cases h with | cons h hs => rw [List.reverse_cons, List.reverse_cons]; exact (ih hs).append (.cons h .nil)
          exact this rs
        refine wpAny_bind (wpAny_assignInOrder (is := is.reverse) (by simp [hnl]) ?_ w2 hrev (by rw [setVars_rev hnI hl]; exact hsv) fun s3 w3 => wpAny_pure (post F1 ρ1 _ s3 l1 p1 w3 .next))
        intro k t i a b vars vars' d hset
        rw [List.getElem?_map] at a
        obtain ⟨x, z1, rfl⟩ := Option.map_eq_some_iff.mp a
        have hk : k < is.length := by have := (List.getElem?_eq_some_iff.mp b).1; simpa using this
        rw [List.getElem?_reverse (by omega)] at z1
        rw [List.getElem?_reverse hk] at b
        rw [hnl] at z1
        exact EvA.bind (num _ x i z1 b) hset
      obtain ⟨ds, hd, hlen', e3⟩ := asgT_tup e1
      clear e1
      rcases hd with rfl | rfl
      · obtain ⟨a, vs', rfl, hl, hs'⟩ := w1.g.tuple (.old r1)
        have hsz : names.length = vs'.toArray.size := by rw [hnl, hlen', ← hs'.length]; rfl
        rw [hsz]
        refine wpAny_bind (wpAny_unpackItems_tuple hh hl fun h' he => ?_)
        have w' : W c nm X env fa F1 ρ1 vars σ1 { s1 with heap := h' } := w1.keep (Kp.mk' (tk := s1.toks) (fun b o e => he b o (Nat.ne_of_lt (Heap.lt_size e)) e) (Nat.le_refl _))
        exact fin vs' ds _ w' hs' hlen' e3
      · obtain ⟨a, vs', rfl, hl, hs'⟩ := w1.g.list (.old r1)
        have hsz : names.length = vs'.toArray.size := by rw [hnl, hlen', ← hs'.length]; rfl
        rw [hsz]
        refine wpAny_bind (unpackItems_list hh hl fun h' he => ?_)
        have w' : W c nm X env fa F1 ρ1 vars σ1 { s1 with heap := h' } := w1.keep (Kp.mk' (tk := s1.toks) (fun b o e => he b o (Nat.ne_of_lt (Heap.lt_size e)) e) (Nat.le_refl _))
        exact fin vs' ds _ w' hs' hlen' e3
  · refine plain ?_
    unfold swappedStores
    split
    · rename_i hm
      split at hm
      · cases hm; exact absurd ⟨_, _, _, _, _, _, rfl, rfl⟩ hsh
      · cases hm
        match Ts, ht with
        | [], ht => (first | exact noneE ht | exact falseE ht | exact nomatch ht)
        | .var i :: _, ht => obtain ⟨x, p', hx, _⟩ := isT_var (Bool.and_eq_true_iff.mp ht).1; cases hx
        | .tup is :: _, ht => obtain ⟨es', n', p', hx, _⟩ := isT_tup (Bool.and_eq_true_iff.mp ht).1; cases hx
      · cases hm
    · rfl
end
end Ev
end
section
set_option maxRecDepth 100000
set_option autoImplicit false
set_option linter.all false
namespace Ev
open PySem PySem.W PySem.Calls PyProof.Rows PySem.SeqAt

/-- what a store of an attribute asks of the class -/
structure ClsSet (c : Cx) : Prop where
  set : findIn c.K (.ref c.C) "__setattr__" = some (some (.builtin "object.__setattr__"))
  over : plainOver c.K c.C = true
  taker : ∀ k, k < 5 → takerIn c.K c.C (attrName k) = some none

section
variable {c : Cx} {nm : Nm} {X : PMap} {fa : List (Option Addr)} {σ σ' σ1 σ2 σ3 : Sto} {env : Env} {vars vars' vars1 : Vars} {A : Around} {F F' : FM} {ρ ρ' : List (List Addr)} {s s' : Shared}

theorem setItem_exact {prog : Program} {w : World} {E : Value → Shared → Prop} {l : Addr} {vs : List Value} {n : Nat} {k : Int} {t : Tok} {v : Value} {Q : Unit → Shared → Prop} (ho : s.heap.get? l = some { cls := .type "list", data := .seq vs.toArray n })
    (h0 : 0 ≤ k) (hfit : k < 2 ^ 63) (hn : k.toNat < vs.length)
    (hQ : ∀ h', h'.get? l = some { cls := .type "list", data := .seq (vs.set k.toNat v).toArray n } → Heap.SameBut l s.heap h' → Q () { s with heap := h' }) :
    wpAny (model prog w) A (setItem (.ref l) (.int k t) v) Q E s := by
  have hl : s.heap.IsList l vs.toArray := ⟨_, ho, rfl, _, rfl⟩
  have hd : ({ cls := .type "list", data := .seq vs.toArray n } : Obj).data = .seq vs.toArray n := rfl
  unfold setItem
  try with_reducible refine wpAny_holding ?_
  first | refine wpAny_bind (wpAny_pure ?_) | skip
  refine wpAny_bind (wpAny_sequenceKey hl.typeIs (by decide) ?_)
  refine wpAny_bind (wpAny_callSpecial?_slot (name := Str.ofString "__setitem__") hl.typeIs slot_list_setitem
    (wpAny_call_entry slot_list_setitem hl.typeIs entry_list_setitem ?_ (args_list_setitem _ _ _)))
  show wpAny _ _ (Builtin.List.listSubscript? (.int k t) >>= _) _ _ s
  refine wpAny_bind (wpAny_listSubscript_int (fitsIndex_of h0 hfit) ?_)
  clear hfit
  obtain ⟨j, rfl⟩ := Int.eq_ofNat_of_zero_le h0
  have hj : j < vs.toArray.size := by simpa using hn
  have hx' : vs.toArray[j]? = some vs.toArray[j] := Array.getElem?_eq_getElem hj
  show wpAny _ _ ((seqItemAt l j >>= fun r => pure (r.map (j, ·))) >>= _) _ _ s
  refine wpAny_bind (wpAny_bind (wpAny_seqItemAt ho hd (wpAny_pure ?_)))
  rw [hx']
  show wpAny _ _ (setSeqItemAt l j v >>= _) _ _ s
  have hob : Obj.mapSeq (·.setIfInBounds j v) { cls := .type "list", data := .seq vs.toArray n } = { cls := .type "list", data := .seq (vs.set j v).toArray n } := by
    simp [Obj.mapSeq]
  have hfin : (s.heap.update l (Obj.mapSeq (·.setIfInBounds j v))).get? l = some { cls := .type "list", data := .seq (vs.set j v).toArray n } := by
    rw [Heap.get?_update_self _ ho (by rw [hob]; rfl), hob]
  refine wpAny_bind (wpAny_setSeqItemAt ho hd ?_)
  first
    | exact wpAny_bind (wpAny_pure (wpAny_pure ⟨.none, rfl, wpAny_pure (hQ _ hfin (Heap.SameBut.update ..))⟩))
    | exact wpAny_pure ⟨.none, rfl, wpAny_pure (hQ _ hfin (Heap.SameBut.update ..))⟩

theorem swapsWith_other {v t : Expr} {line : Nat} (ht : ∀ x p, t ≠ .Name x p) : swapsWith v (some t) line env = pure false := by
  unfold swapsWith
  cases v <;> try rfl
  all_goals
    dsimp only
    cases t <;> first | rfl | exact absurd rfl (ht _ _)
theorem swapsOther {v t : Expr} {line : Nat} (ht : ∀ x p, t ≠ .Name x p) : swapsWithSole [t] v line env = pure false := swapsWith_other ht

theorem ExS.setIdx {o i v : Expr} {p pos : Pos} {d : D} {l : Nat} {k : Int} {xs : List D} (hv : EvV c nm X env fa A (eval v env) vars σ d σ1) (ho : EvV c nm X env fa A (eval o env) vars σ1 (.loc l) σ2) (hi : EvV c nm X env fa A (eval i env) vars σ2 (.int k) σ3)
    (hl : σ3[l]? = some (some (.lst xs))) (hk : 0 ≤ k ∧ small k = true ∧ k.toNat < xs.length) :
    ExS c nm X env fa A (exec (.Assign [.Subscript o i p] v pos) env) vars σ .next vars (σ3.set l (some (.lst (xs.set k.toNat d)))) := by
  intro F ρ s Q Ex w post
  have hsm : k.natAbs < 2 ^ 62 := of_decide_eq_true hk.2.1
  refine wpAny_Assign_Subscript (hv F ρ s _ Ex w fun F1 ρ1 v1 s1 l1 p1 w1 r1 => ho F1 ρ1 s1 _ Ex w1 fun F2 ρ2 v2 s2 l2 p2 w2 r2 => hi F2 ρ2 s2 _ Ex w2 fun F3 ρ3 v3 s3 l3 p3 w3 r3 => ?_) (swapsWith_other (fun _ _ h => by cases h))
  cases r3 with
  | int _ t =>
  obtain ⟨a, vs, n, rfl, q1, q2, q3⟩ := w3.g.live (r2.mono l3 p3) hl
  refine setItem_exact q2 hk.1 (by omega) (by rw [q3.length]; exact hk.2.2) fun h' hg hs => ?_
  have rr := r1.mono (l2.trans l3) (p2.trans p3)
  exact post F3 ρ3 _ _ ((l1.trans l2).trans l3) ((p1.trans p2).trans p3) (w3.turn (tk := s3.toks) hl q1 (fun b o' hb e => (hs.2 b (by simpa using hb)).trans e) (.lst hg (q3.set _ rr)) (fun b hb => by simp at hb; subst hb; exact ⟨_, hg⟩) (Nat.le_refl _)) .next

theorem Ra.none : ∀ {es : List DictEntry} {as : List (Nat × D)} {k : Nat}, k < 5 → Ra c.C F ρ es as → as.lookup k = none → getL (attrName k) es = some none ∧ (∀ e ∈ es, e.key.isStr (attrName k) = false)
  | _, [], k, _, h, _ => by cases h; exact ⟨rfl, fun e he => by simp at he⟩
  | _, (j, x) :: as, k, hk5, h, e => by
    cases h with
    | @cons hs t v _ _ es _ hk hv hr =>
      have hb : (Value.str (attrName j) t).isStr (attrName k) = (j == k) := attrName_inj j hk k hk5
      have hjk : (j == k) = false := by
        rw [beq_eq_false_iff_ne]; intro q; subst q
        rw [List.lookup_cons, beq_self_eq_true] at e; cases e
      have hkj : (k == j) = false := by rw [beq_eq_false_iff_ne] at hjk ⊢; exact fun q => hjk q.symm
      rw [List.lookup_cons, hkj] at e
      obtain ⟨h1, h2⟩ := Ra.none hk5 hr e
      refine ⟨?_, fun e he => ?_⟩
      · unfold getL at h1 ⊢
        rw [List.find?_cons, hb, hjk]
        dsimp only
        cases hf : es.find? (·.key.isStr (attrName k)) with
        | none =>
          rw [hf] at h1
          dsimp only at h1
          have : (List.any (⟨hs, .str (attrName j) t, v⟩ :: es) fun x => x.refKey) = es.any (·.refKey) := rfl
          rw [this]; exact h1
        | some en => rw [hf] at h1; cases h1
      · rcases List.mem_cons.mp he with rfl | he
        · exact hb.trans hjk
        · exact h2 e he
theorem putL_new {name : Str} {hsh : Int} {key v : Value} : ∀ {es : List DictEntry}, (∀ e ∈ es, e.key.isStr name = false) → putL name hsh key v es = es ++ [⟨hsh, key, v⟩]
  | [], _ => rfl
  | e :: r, h => by
    unfold putL
    rw [h e (by simp)]
    simp only [Bool.false_eq_true, if_false, List.cons_append]
    rw [putL_new fun e he => h e (by simp [he])]
theorem Ra.snoc {hsh : Int} {t : Tok} {v : Value} {k : Nat} {d : D} (hk : k < 5) (hv : Rv c.C F ρ v d) : ∀ {es : List DictEntry} {as : List (Nat × D)}, Ra c.C F ρ es as → Ra c.C F ρ (es ++ [⟨hsh, .str (attrName k) t, v⟩]) (as ++ [(k, d)])
  | _, [], h => by cases h; exact .cons hk hv .nil
  | _, (_, _) :: _, h => by cases h with | cons hk' hv' hr => exact .cons hk' hv' (Ra.snoc hk hv hr)
theorem Ra.length {es : List DictEntry} : ∀ {as : List (Nat × D)}, Ra c.C F ρ es as → es.length = as.length := by
  induction es with
  | nil => intro as h; cases h; rfl
  | cons e es ih => intro as h; cases h with | cons _ _ hr => simp [ih hr]

theorem setAttr_exact {E : Value → Shared → Prop} {x dx : Addr} {es : List DictEntry} {n k : Nat} {as : List (Nat × D)} {v : Value} {Q : Unit → Shared → Prop} (XK : c.K.In s.heap) (C : ClsOk c) (S : ClsSet c) (hx : s.heap.get? x = some (instObj c.C dx)) (hdx : s.heap.get? dx = some (dictOf es n))
    (hr : Ra c.C F ρ es as) (hk : k < 5) (hno : as.lookup k = none) (hlen : as.length < 20)
    (h : ∀ hsh tk h', h'.get? dx = some (dictOf (es ++ [⟨hsh, .str (attrName k) tk, v⟩]) (n + 1)) → Heap.SameBut dx s.heap h' → Q () { s with heap := h', toks := s.toks + 2 }) : wpAny (model c.prog c.w) A (setAttr (.ref x) (attrName k) v) Q E s := by
  have I : InstAt s.heap x (instObj c.C dx) c.C (some (dictOf es n)) := ⟨hx, rfl, rfl, hdx⟩
  obtain ⟨q1, q2⟩ := hr.none hk hno
  refine set_plain XK I S.set (osa_open (s := { s with toks := s.toks + 1 }) XK I S.over (S.taker k hk) fun b => ?_)
  obtain ⟨cd, hc, hd'⟩ := any_some C.hasDict
  dsimp only
  have hput : Obj.putName (attrName k) (PyData.keyHash c.w.params (attrName k)) (.str (attrName k) (s.toks + 1)) v (dictOf es n) = dictOf (es ++ [⟨PyData.keyHash c.w.params (attrName k), .str (attrName k) (s.toks + 1), v⟩]) (n + 1) := by
    rw [putName_dict, putL_new q2]
    have : putN (attrName k) es n = n + 1 := by
      unfold putN
      have : es.any (·.key.isStr (attrName k)) = false := by rw [List.any_eq_false]; intro e he; simp [q2 e he]
      rw [this]; rfl
    rw [this]
  have hget : (s.heap.update dx (Obj.putName (attrName k) (PyData.keyHash c.w.params (attrName k)) (.str (attrName k) (s.toks + 1)) v)).get? dx = some (dictOf (es ++ [⟨PyData.keyHash c.w.params (attrName k), .str (attrName k) (s.toks + 1), v⟩]) (n + 1)) := by
    rw [Heap.get?_update_self _ hdx (by rw [hput]; rfl), hput]
  refine wpAny_bind (wpAny_pure (wpAny_bind (wpAny_bind (wpAny_loadPart hx (wpAny_bind (Looks.here (s := { s with toks := s.toks + 1 }) (looks_clsIn XK hc) ?_))))))
  rw [hd']
  refine wpAny_pure (a := some dx) (wpAny_bind (wpAny_pure (wpAny_bind ?_)))
  unfold nsSet
  refine wpAny_bind (wpAny_bind (wpAny_askSetting (wpAny_pure (wpAny_bind (wpAny_mkText (wpAny_bind (wpAny_loadPart hdx ?_)))))))
  dsimp only
  have hno' : (!es.toArray.any (·.key.isStr (attrName k)) && es.toArray.any (·.refKey)) = false := by
    rw [← Array.any_toList, ← Array.any_toList]
    have : es.any (·.refKey) = false := hr.norefs
    rw [show es.toArray.toList = es from rfl, this, Bool.and_false]
  rw [aRefKeyMayBeTheName_at, hno']
  refine wpAny_updatePart hdx ?_
  refine wpAny_bind (wpAny_lookBehind hget (pastItsLine_dict (by rw [List.size_toArray, sizeLine_eq]; simp [hr.length]; omega)) ?_)
  exact wpAny_pure (h _ _ _ hget (Heap.SameBut.update ..))

theorem ExS.setAttr {o v : Expr} {y : Str} {p pos : Pos} {d : D} {l k : Nat} {as : List (Nat × D)} (Z : Bas c) (C : ClsOk c) (S : ClsSet c) (hv : EvV c nm X env fa A (eval v env) vars σ d σ1) (ho : EvV c nm X env fa A (eval o env) vars σ1 (.loc l) σ2) (hy : attrIdx y = some k)
    (hl : σ2[l]? = some (some (.inst as))) (hk : as.lookup k = none ∧ as.length < 20) :
    ExS c nm X env fa A (exec (.Assign [.Attribute o y p] v pos) env) vars σ .next vars (σ2.set l (some (.inst (as ++ [(k, d)])))) := by
  intro F ρ s Q Ex w post
  obtain ⟨rfl, hk5⟩ := attrIdx_name hy
  refine wpAny_Assign_stores (hv F ρ s _ Ex w fun F1 ρ1 v1 s1 l1 p1 w1 r1 => ?_) (swapsOther (t := .Attribute o (attrName k) p) (fun _ _ h => by cases h)) rfl
  show wpAny _ _ (holding [v1] (eval o env) >>= fun ov => standAt p.atName >>= fun _ => holding [v1, ov] (PySem.setAttr ov (attrName k) v1) >>= fun _ => release [v1, ov] []) _ _ _
  refine wpAny_bind (wpAny_holding (ho F1 ρ1 s1 _ Ex w1 fun F2 ρ2 v2 s2 l2 p2 w2 r2 => wpAny_bind (wpAny_standAt (wpAny_bind (wpAny_holding ?_)))))
  cases r2 with
  | @loc a _ hl2 =>
  obtain ⟨r, q1, q2⟩ := w2.g.objs l _ hl
  obtain ⟨r', hl2⟩ := hl2
  rw [q1] at hl2; cases hl2
  cases q2 with
  | @inst _ dx es n _ hx hdx hr =>
  have hne : a ≠ dx := fun q => by subst q; rw [hx] at hdx; cases hdx
  refine setAttr_exact (w2.g.K Z) C S hx hdx hr hk5 hk.1 hk.2 fun hsh tk h' hg hs => wpAny_release ?_
  have rr := r1.mono l2 p2
  have hx' : h'.get? a = some (instObj c.C dx) := (hs.2 a hne).trans hx
  exact post F2 ρ2 _ _ (l1.trans l2) (p1.trans p2) (w2.turn (tk := s2.toks + 2) hl q1 (fun b o' hb e => (hs.2 b (by simp at hb; exact hb.2)).trans e) (.inst hx' hg (hr.snoc hk5 rr))
    (fun b hb => by simp at hb; rcases hb with rfl | rfl; exact ⟨_, hx'⟩; exact ⟨_, hg⟩) (by omega)) .next

/-- a comprehension whose list goes to a use of its own before its frame goes -/
noncomputable def EvU (c : Cx) (nm : Nm) (X : PMap) (env : Env) (fa : List (Option Addr)) (A : Around) (value : Expr) (vars : Vars) (σ : Sto) (d : D) (σ' : Sto) : Prop :=
  ∀ F ρ s (u : Value → Sem Unit) vars' Q Ex, W c nm X env fa F ρ vars σ s → (∀ X', EvA c nm X' env fa A u d vars vars') →
    (∀ F' ρ' s', PLe F F' → ρ <+: ρ' → W c nm X env fa F' ρ' vars' σ' s' → Q () s') → wpAny (model c.prog c.w) A (evalThenUse value env u) Q Ex s

theorem ExS.asgU {t v : Expr} {T : Ev.T} {pos : Pos} {d : D} (hh : A.handled = none) (ht : isT nm T t = true)
    (hs : swapsWithSole [t] v pos.line env = pure true) (h : EvU c nm X env fa A v vars σ d σ1) (e : asgTs [T] d vars = some vars') : ExS c nm X env fa A (exec (.Assign [t] v pos) env) vars σ .next vars' σ1 := by
  intro F ρ s Q Ex w post
  rw [exec_Assign_arm]
  refine wpAny_bind (wpAny_standAt ?_)
  rw [hs]
  refine wpAny_bind (wpAny_pure ?_)
  rw [if_pos rfl]
  refine wpAny_bind (h F ρ s _ vars' _ Ex w (fun X' F1 ρ1 σ' s1 u Q' Ex' w1 r1 k => ?_) fun F1 ρ1 s1 l1 p1 w1 => wpAny_pure (post F1 ρ1 _ s1 l1 p1 w1 .next))
  exact wpAny_assignAll hh (ts := [t]) (Ts := [T]) (by show (isT nm T t && true) = true; rw [ht]; rfl) e w1 r1 k
end
end Ev
end
section
set_option maxRecDepth 100000
set_option autoImplicit false
set_option linter.all false
namespace Ev
open PySem PySem.W PySem.Calls PyProof.Rows PySem.SeqAt

/-- an iterator over ds, at the i-th by St i; own: what it owns -/
structure Iter (c : Cx) (A : Around) (tg : Expr) (I : Addr) (fp own : List Addr) (F0 : FM) (ρ0 : List (List Addr)) (ds : List D) (St : Nat → Heap → Prop) : Prop where
  frame : ∀ i h h', St i h → (∀ b ∈ fp, ∀ o, h.get? b = some o → h'.get? b = some o) → St i h'
  live : ∀ i h, St i h → ∀ b ∈ own, ∃ o, h.get? b = some o ∧ ∀ w, o.data ≠ .cell w
  frozen : ∀ b ∈ fp, b ∈ own ∨ ∃ o, F0.o b = some o
  turn : ∀ (i : Nat) (d : D) (s : Shared) (Q : Value → Shared → Prop) (E : Value → Shared → Prop), ds[i]? = some d → St i s.heap →
    (∀ v s', (∀ b o, b ∉ own → s.heap.get? b = some o → s'.heap.get? b = some o) → s'.gens = s.gens → s'.os = s.os → s.toks ≤ s'.toks → St (i + 1) s'.heap → Res c F0 ρ0 s s' v d → Q v s') →
    wpAny (model c.prog c.w) A (pyNext (.ref I)) (fun r s1 => ∃ v, r = some v ∧ wpAny (model c.prog c.w) A (letOwnedTupleGo tg (.ref I) v) (fun _ s2 => Q v s2) E s1) E s
  done : ∀ (s : Shared) (Q : Option Value → Shared → Prop) (E : Value → Shared → Prop), St ds.length s.heap →
    (∀ s', (∀ b o, b ∉ own → s.heap.get? b = some o → s'.heap.get? b = some o) → s'.gens = s.gens → s'.os = s.os → s.toks ≤ s'.toks → Q none s') → wpAny (model c.prog c.w) A (pyNext (.ref I)) Q E s
  self : ∀ i (s : Shared) (Q : Value → Shared → Prop) (E : Value → Shared → Prop), St i s.heap → Q (.ref I) s → wpAny (model c.prog c.w) A (pyIter (.ref I)) Q E s

section
variable {c : Cx} {nm : Nm} {X : PMap} {fa : List (Option Addr)} {σ σ' σ1 σ2 σ3 : Sto} {env : Env} {vars vars' vars1 : Vars} {A : Around} {F F' F0 : FM} {ρ ρ' ρ0 : List (List Addr)} {s s' : Shared} {fl : Flw}

theorem Res.mono {v : Value} {d : D} (r : Res c F ρ s s' v d) (hF : PLe F F') (hρ : ρ <+: ρ') : Res c F' ρ' s s' v d := by
  cases r with
  | old r => exact .old (r.mono hF hρ)
  | flt h0 h1 h2 => exact .flt h0 h1 h2
  | tup h0 ho hc hd hs => exact .tup h0 ho hc hd (hs.mono hF hρ)
  | lst h0 ho hc hd hs => exact .lst h0 ho hc hd (hs.mono hF hρ)

theorem W.keepBut {own : List Addr} (w : W c nm X env fa F ρ vars σ s) (hg : GuardOk F X fa ρ σ own) (hk : ∀ b o, b ∉ own → s.heap.get? b = some o → s'.heap.get? b = some o) (h1 : s'.gens = s.gens) (h2 : s'.os = s.os) (h3 : s.toks ≤ s'.toks) : W c nm X env fa F ρ vars σ s' := by
  refine ⟨w.g.to (fun b o hb e => hk b o (fun hin => ?_) e) h1 h2 h3, w.f.to PLe.rfl (List.prefix_refl _) fun i a o hi e => hk a o (fun hin => (hg a hin).2.2 (.fr i) trivial (adrs_fr.mpr hi)) e⟩
  obtain ⟨q1, q2, q3⟩ := hg b hin
  rcases hb with hb | hb | ⟨t, hl, hm⟩
  · rw [q1] at hb; cases hb
  · rw [q2] at hb; cases hb
  · exact q3 t hl hm

/-- the same, the new value frozen -/
theorem W.res2 {own : List Addr} (w : W c nm X env fa F ρ vars σ s) (w' : W c nm X env fa F ρ vars σ s') (hg : GuardOk F X fa ρ σ own) (hl : ∀ b ∈ own, ∃ o, s.heap.get? b = some o) {v : Value} {d : D} (r : Res c F ρ s s' v d) :
    ∃ F', PLe F F' ∧ W c nm X env fa F' ρ vars σ s' ∧ GuardOk F' X fa ρ σ own ∧ Rv c.C F' ρ v d := by
  have guard : ∀ {a : Addr} {o : Obj}, s.heap.get? a = none → GuardOk (updF F a o) X fa ρ σ own := by
    intro a o h0 b hb
    obtain ⟨q1, q2, q3⟩ := hg b hb
    refine ⟨?_, q2, q3⟩
    show upd F.o a o b = none
    rw [upd_ne]; exact q1
    intro e; subst e
    obtain ⟨o', e⟩ := hl b hb
    rw [h0] at e; cases e
  cases r with
  | old r => exact ⟨F, PLe.rfl, w', hg, r⟩
  | @flt x t hp h1 h2 =>
    have h0 : F.t t = none := by
      cases e : F.t t with
      | none => rfl
      | some y => exact absurd (Nat.lt_of_le_of_lt h1 (w.g.ft t y e).2) (Nat.lt_irrefl _)
    have le : PLe F { F with t := fun u => if u = t then some x else F.t u } := ⟨fun _ _ e => e, fun u y e => by
      dsimp only; split
      · rename_i q; rw [q, h0] at e; cases e
      · exact e⟩
    refine ⟨_, le, w'.intoG { f := w'.g.f, x := w'.g.x, fx := w'.g.fx, base := w'.g.base, apart := w'.g.apart, own := w'.g.own, objs := fun l m e => ?_, len := w'.g.len, gens := w'.g.gens, os := w'.g.os, tpos := w'.g.tpos, ft := fun u y e => ?_ } le (List.prefix_refl _), hg, .flt (by simp)⟩
    · obtain ⟨r, q1, q2⟩ := w'.g.objs l m e
      exact ⟨r, q1, q2.mono le (List.prefix_refl _) fun _ _ _ h => h⟩
    · dsimp only at e; split at e
      · rename_i q; subst q
        exact ⟨Nat.lt_of_lt_of_le hp h1, h2⟩
      · exact w'.g.ft u y e
  | @tup a o vs n xs h0 ho hc hd hs =>
    obtain ⟨h1, h2, h3⟩ := w.g.fresh h0
    have le := upd_le (o := o) h1
    exact ⟨_, le, w'.intoG (w'.g.freezeAt ho h1 h2 h3) le (List.prefix_refl _), guard h0, .tup upd_self hc hd (hs.mono le (List.prefix_refl _))⟩
  | @lst a o vs n xs h0 ho hc hd hs =>
    obtain ⟨h1, h2, h3⟩ := w.g.fresh h0
    have le := upd_le (o := o) h1
    exact ⟨_, le, w'.intoG (w'.g.freezeAt ho h1 h2 h3) le (List.prefix_refl _), guard h0, .lst upd_self hc hd (hs.mono le (List.prefix_refl _))⟩

theorem Iter.step {tg : Expr} {I : Addr} {fp own : List Addr} {ds : List D} {St : Nat → Heap → Prop} (it : Iter c A tg I fp own F0 ρ0 ds St) (w : W c nm X env fa F ρ vars σ s) (hg : GuardOk F X fa ρ σ own) (le : PLe F0 F) (hp : ρ0 <+: ρ)
    {i : Nat} {d : D} (hd : ds[i]? = some d) (st : St i s.heap) {Q : Value → Shared → Prop} {E : Value → Shared → Prop}
    (post : ∀ v s' F', PLe F F' → W c nm X env fa F' ρ vars σ s' → GuardOk F' X fa ρ σ own → St (i + 1) s'.heap → Rv c.C F' ρ v d → Q v s') :
    wpAny (model c.prog c.w) A (pyNext (.ref I)) (fun r s1 => ∃ v, r = some v ∧ wpAny (model c.prog c.w) A (letOwnedTupleGo tg (.ref I) v) (fun _ s2 => Q v s2) E s1) E s := by
  refine it.turn i d s Q E hd st fun v s' hk h1 h2 h3 st' r => ?_
  have w' := w.keepBut hg hk h1 h2 h3
  obtain ⟨F', l, w2, g2, r2⟩ := w.res2 w' hg (fun b hb => let ⟨o, e, _⟩ := it.live i _ st b hb; ⟨o, e⟩) (r.mono le hp)
  exact post v s' F' l w2 g2 st' r2

/-- after a turn that keeps what the iterator owns -/
theorem Iter.stay {tg : Expr} {I : Addr} {fp own : List Addr} {ds : List D} {St : Nat → Heap → Prop} (it : Iter c A tg I fp own F0 ρ0 ds St) {i : Nat} {h h' : Heap} (st : St i h) (hf : ∀ a o, F0.o a = some o → h.get? a = some o) (hf' : ∀ a o, F0.o a = some o → h'.get? a = some o)
    (hk : ∀ b ∈ own, ∀ o, h.get? b = some o → h'.get? b = some o) : St i h' := by
  refine it.frame i h h' st fun b hb o e => ?_
  rcases it.frozen b hb with ho | ⟨o', ho⟩
  · exact hk b ho o e
  · have := hf b o' ho
    rw [e] at this; cases this
    exact hf' b o ho

noncomputable def EvI (c : Cx) (nm : Nm) (X : PMap) (env : Env) (fa : List (Option Addr)) (A : Around) (tg it : Expr) (vars : Vars) (σ : Sto) (ds : List D) (σ' : Sto) : Prop :=
  ∀ F ρ s (Q : Value → Shared → Prop) Ex, W c nm X env fa F ρ vars σ s →
    (∀ F' ρ' I fp own St s', PLe F F' → ρ <+: ρ' → W c nm X env fa F' ρ' vars σ' s' → Iter c A tg I fp own F' ρ' ds St → St 0 s'.heap → GuardOk F' X fa ρ' σ' own → Q (.ref I) s') →
    wpAny (model c.prog c.w) A (eval it env) (fun x s1 => wpAny (model c.prog c.w) A (pyIter x) Q Ex s1) Ex s

/-- where a for stands -/
structure ForI (c : Cx) (nm : Nm) (X : PMap) (env : Env) (fa : List (Option Addr)) (own : List Addr) (St : Nat → Heap → Prop) (ds : List D) (f : D → Vars → Sto → Option (Flw × Vars × Sto)) (r : Option (Flw × Vars × Sto))
    (i : Nat) (F : FM) (ρ : List (List Addr)) (vars : Vars) (σ : Sto) (s : Shared) : Prop where
  le : i ≤ ds.length
  w : W c nm X env fa F ρ vars σ s
  g : GuardOk F X fa ρ σ own
  st : St i s.heap
  e : forD f (ds.drop i) vars σ = r
noncomputable def ForX (c : Cx) (nm : Nm) (X : PMap) (env : Env) (fa : List (Option Addr)) (own : List Addr) (St : Nat → Heap → Prop) (ds : List D) (f : D → Vars → Sto → Option (Flw × Vars × Sto)) (r : Option (Flw × Vars × Sto)) (F1 : FM) (ρ1 : List (List Addr)) (n : Nat) (s : Shared) : Prop :=
  ∃ i F2 ρ2 vars2 σ2, n = ds.length + 1 - i ∧ PLe F1 F2 ∧ ρ1 <+: ρ2 ∧ ForI c nm X env fa own St ds f r i F2 ρ2 vars2 σ2 s
/-- how a turn ends -/
noncomputable def forK (P : Nat → Shared → Prop) (n : Nat) (Q : Flow → Shared → Prop) (f : Flow) (s : Shared) : Prop := match f with
  | .next | .cont => ∃ m, m < n ∧ P m s
  | .brk => Q .next s
  | .ret v => Q (.ret v) s
theorem sub_lt {n i : Nat} (h : i < n) : n + 1 - (i + 1) < n + 1 - i := by omega
theorem ExS.forIn {t it : Expr} {T : Ev.T} {b : List Stmt} {pos : Pos} {ds : List D} {g : Vars → Sto → Option (Flw × Vars × Sto)} (hh : A.handled = none) (ht : isT nm T t = true) (hs : ∀ x, foldedSetIterable it env x = pure x)
    (hi : EvI c nm X env fa A t it vars σ ds σ1)
    (hb : ∀ X' vars σ fl vars' σ', g vars σ = some (fl, vars', σ') → ExS c nm X' env fa A (execs b env) vars σ fl vars' σ')
    (e : forD (fun d vars σ => (asgT T d vars).bind fun vars => g vars σ) ds vars σ1 = some (fl, vars', σ')) : ExS c nm X env fa A (exec (.For t it b [] pos) env) vars σ fl vars' σ' := by
  intro F ρ s Q Ex w post
  refine wpAny_For (hi F ρ s _ Ex w fun F1 ρ1 I fp own St s1 l1 p1 w1 it st hg => ?_) hs
  refine codeAny_forLoop_any (ForX c nm X env fa own St ds (fun d vars σ => (asgT T d vars).bind fun vars => g vars σ) (some (fl, vars', σ')) F1 ρ1) ?_ (ds.length + 1) ⟨0, F1, ρ1, vars, σ1, rfl, PLe.rfl, List.prefix_refl _, Nat.zero_le _, w1, hg, st, e⟩
  rintro n s2 ⟨i, F2, ρ2, vars2, σ2, rfl, l2, p2, hile, w2, hg2, st2, e2⟩
  rcases Nat.lt_or_ge i ds.length with hlt | hge
  · have hd : ds[i]? = some ds[i] := List.getElem?_eq_getElem hlt
    rw [List.drop_eq_getElem_cons hlt] at e2
    refine bindE (show (((asgT T ds[i] vars2).bind fun vars => g vars σ2).bind fun r => aft r (forD _ (ds.drop (i + 1)))) = _ from e2) fun r hr e3 => bindE hr fun vars3 ha hgv => ?_
    refine wpAny_mono (it.step w2 hg2 l2 p2 hd st2 (Q := fun v s3 => wpAny (model c.prog c.w) A (assign t env v) (fun _ s₂ => wpAny (model c.prog c.w) A (execs b env) (forK (ForX c nm X env fa own St ds (fun d vars σ => (asgT T d vars).bind fun vars => g vars σ) (some (fl, vars', σ')) F1 ρ1) (ds.length + 1 - i) Q) (notedBy (model c.prog c.w) A env fun e s' => cameBackBy (model c.prog c.w) A env Ex e s') s₂) (notedBy (model c.prog c.w) A env fun e s' => cameBackBy (model c.prog c.w) A env Ex e s') s3) ?_) (fun r s3 h3 => ?_) fun _ _ h => h
    · intro v s3 F3 l3 w3 hg3 st3 r3
      refine EvA.target (X := hid (· ∈ own) X s3.heap) hh ht ha F3 ρ2 σ2 s3 v _ _ (w3.guardL hg3) r3 fun s4 w4 => ?_
      obtain ⟨fl3, vars4, σ4⟩ := r
      refine hb _ _ _ _ _ _ hgv F3 ρ2 s4 _ _ w4 fun F5 ρ5 fx s5 l5 p5 w5 r5 => ?_
      obtain ⟨w6, k6, hg6⟩ := w5.unguardL (fun b hb => (hg3 b hb).2.1) fun b hb => it.live _ _ st3 b hb
      have LL := l2.trans (l3.trans l5)
      have PP := p2.trans p5
      have st6 : St (i + 1) s5.heap := it.stay st3 (fun a o h => w3.g.f a o ((l2.trans l3).o a o h)) (fun a o h => w6.g.f a o (LL.o a o h)) k6
      have go : forD (fun d vars σ => (asgT T d vars).bind fun vars => g vars σ) (ds.drop (i + 1)) vars4 σ4 = some (fl, vars', σ') → ∃ m, m < ds.length + 1 - i ∧ ForX c nm X env fa own St ds (fun d vars σ => (asgT T d vars).bind fun vars => g vars σ) (some (fl, vars', σ')) F1 ρ1 m s5 :=
        fun e4 => ⟨_, sub_lt hlt, i + 1, F5, ρ5, vars4, σ4, rfl, LL, PP, hlt, w6, hg6, st6, e4⟩
      cases fl3 with
      | next => obtain rfl := (r5.inv : fx = .next); exact go e3
      | cont => obtain rfl := (r5.inv : fx = .cont); exact go e3
      | brk => obtain rfl := (r5.inv : fx = .brk); cases e3; exact post F5 ρ5 .next s5 (l1.trans LL) (p1.trans PP) w6 .next
      | ret d => obtain ⟨v, rfl, r6⟩ := r5.inv; cases e3; exact post F5 ρ5 _ s5 (l1.trans LL) (p1.trans PP) w6 (.ret r6)
    · obtain ⟨v, rfl, h3⟩ := h3
      exact h3
  · obtain rfl := Nat.le_antisymm hile hge
    rw [List.drop_length] at e2
    cases e2
    refine it.done s2 _ _ st2 fun s3 hk h1 h2 h3 => wpAny_execs_nil ?_
    exact post F2 ρ2 .next s3 (l1.trans l2) (p1.trans p2) (w2.keepBut hg2 hk h1 h2 h3) .next
end
end Ev
end
section
set_option maxRecDepth 100000
set_option autoImplicit false
set_option linter.all false
namespace Ev
open PySem PySem.W PySem.Calls PyProof.Rows PySem.SeqAt

noncomputable def biVal : Bi → Value
  | .len => .builtin "len" | .max => .builtin "max" | .min => .builtin "min" | .abs => .builtin "abs" | .round => .builtin "round" | .sum => .builtin "sum" | .sorted => .builtin "sorted" | .list => .type "list" | .tuple => .type "tuple" | .divmod => .builtin "divmod"
  | .range => .type "range" | .enumerate => .type "enumerate" | .zip => .type "zip"
theorem boot_bi : ∀ b, bootBuiltins (biName b) = some (biVal b) ∧ biName b ≠ "__name__" := by
  intro b
  cases b <;> exact ⟨by kernel_rfl, by decide +kernel⟩

/-- no name of a built-in is bound at the top -/
noncomputable def BiFree (c : Cx) : Prop := ∀ b, nsIn c.K mainGlobals (biName b) = some none

section
variable {c : Cx} {nm : Nm} {X : PMap} {fa : List (Option Addr)} {σ σ' σ1 σ2 σ3 : Sto} {env : Env} {vars vars' vars1 : Vars} {A : Around} {F F' F0 : FM} {ρ ρ' ρ0 : List (List Addr)} {s s' : Shared} {fl : Flw}

theorem go_plain {M : Model} {E : Value → Shared → Prop} {tg : Expr} {I : Addr} {v : Value} {o : Obj} {T : String} {Q : Unit → Shared → Prop} (ho : s.heap.get? I = some o) (hc : o.cls = .type T)
    (hT : (["enumerate", "zip", "dict_itemiterator", "dict_reverseitemiterator", "odict_iterator", "itertools.zip_longest", "itertools.pairwise"].contains T) = false) (h : Q () s) : wpAny M A (letOwnedTupleGo tg (.ref I) v) Q E s := by
  unfold letOwnedTupleGo
  have tail : wpAny M A (do
      let (.ref r, .ref a) := (Value.ref I, v) | return
      let o ← load r
      match o.cls, o.data with
      | .type n, .fields vs =>
        if ["enumerate", "zip", "dict_itemiterator", "dict_reverseitemiterator", "odict_iterator", "itertools.zip_longest", "itertools.pairwise"].contains n && vs[0]? == some (rawInt a) then
          rule "for.unpacks-the-owned-tuple"
          updateField r 0 .none
      | _, _ => pure ()) Q E s := by
    cases v <;> try exact wpAny_pure h
    refine wpAny_bind (wpAny_load ho ?_)
    rw [hc]
    cases o.data <;> try exact wpAny_pure h
    dsimp only
    rw [hT]
    exact wpAny_pure h
  split
  · exact tail
  · exact tail
  · exact wpAny_pure h

theorem Iter.ofWalks {tg : Expr} {I : Addr} {fp own : List Addr} {n : Nat} {ds : List D} {P : Nat → Value → Prop} {St : Nat → Heap → Prop} (Wk : Walks c.prog c.w A I fp own n P St) (hn : ds.length = n)
    (live : ∀ i h, St i h → ∀ b ∈ own, ∃ o, h.get? b = some o ∧ ∀ w, o.data ≠ .cell w) (frozen : ∀ b ∈ fp, b ∈ own ∨ ∃ o, F0.o b = some o) (val : ∀ i v d, P i v → ds[i]? = some d → Rv c.C F0 ρ0 v d)
    (plain : ∀ i h, St i h → ∃ o T, h.get? I = some o ∧ o.cls = .type T ∧ (["enumerate", "zip", "dict_itemiterator", "dict_reverseitemiterator", "odict_iterator", "itertools.zip_longest", "itertools.pairwise"].contains T) = false) :
    Iter c A tg I fp own F0 ρ0 ds St where
  frame := Wk.frame
  live := live
  frozen := frozen
  turn := fun i d s Q E hd st hQ => by
    have hi : i < n := by rw [← hn]; exact (List.getElem?_eq_some_iff.mp hd).1
    refine wpAny_with_toks (n := s.toks) (Nat.le_refl _) (Wk.item i s _ _ hi st fun v h' tk hP st' hk ht => ⟨v, rfl, ?_⟩)
    obtain ⟨o, T, q1, q2, q3⟩ := plain _ _ st'
    have ht' : s.toks ≤ tk := ht
    exact go_plain (s := { s with heap := h', toks := tk }) q1 q2 q3 (hQ v _ hk rfl rfl ht' st' (.old (val i v d hP hd)))
  done := fun s Q E st hQ => by
    refine wpAny_with_toks (n := s.toks) (Nat.le_refl _) (Wk.done s _ _ (hn ▸ st) fun h' tk hk ht => ?_)
    have ht' : s.toks ≤ tk := ht
    exact hQ _ hk rfl rfl ht'
  self := Wk.self

theorem seqIt {ds : List D} {vs : List Value} (hs : Rvs c.C F0 ρ0 vs ds) (i : Nat) (v : Value) (d : D) (hP : (List.toArray vs)[i]? = some v) (hd : ds[i]? = some d) : Rv c.C F0 ρ0 v d := by
  obtain ⟨u, q1, q2⟩ := hs.get hd
  rw [List.getElem?_toArray, q1] at hP
  cases hP; exact q2
theorem seqFz {I a : Addr} {o : Obj} (ho : F0.o a = some o) : ∀ b ∈ [I, a], b ∈ [I] ∨ ∃ o, F0.o b = some o := fun b hb => by
  rcases List.mem_cons.mp hb with rfl | hb
  · exact .inl (List.mem_singleton.mpr rfl)
  · rw [List.mem_singleton.mp hb]; exact .inr ⟨_, ho⟩
theorem itNoCell {I : Addr} {h : Heap} {T : String} {fs : Array Value} {o : Obj} (e1 : h.get? I = some o) (e2 : o.data = .fields fs) : ∀ b ∈ [I], ∃ o, h.get? b = some o ∧ ∀ w, o.data ≠ .cell w := fun b hb => by
  rw [List.mem_singleton.mp hb]; exact ⟨o, e1, fun w q => by rw [e2] at q; (first | exact noneE q | exact falseE q | exact nomatch q)⟩
theorem Iter.list {tg : Expr} {I a : Addr} {o : Obj} {vs : List Value} {ds : List D} (hh : A.handled = none) (hne : a ≠ I) (ho : F0.o a = some o) (hs : Rvs c.C F0 ρ0 vs ds) :
    Iter c A tg I [I, a] [I] F0 ρ0 ds (fun i h => h.IsListIter I a i ∧ h.IsList a vs.toArray) :=
  Iter.ofWalks (Walks.list hh I a hne vs.toArray) hs.length.symm (fun i h st => let ⟨⟨o, e1, _, e2⟩, _⟩ := st; itNoCell (T := "") e1 e2) (seqFz ho) (seqIt hs) (fun i h st => let ⟨⟨o, e1, e2, _⟩, _⟩ := st; ⟨o, _, e1, e2, rfl⟩)
theorem Iter.tuple {tg : Expr} {I a : Addr} {o : Obj} {vs : List Value} {ds : List D} (hh : A.handled = none) (hne : a ≠ I) (ho : F0.o a = some o) (hs : Rvs c.C F0 ρ0 vs ds) :
    Iter c A tg I [I, a] [I] F0 ρ0 ds (fun i h => h.IsTupleIter I a i ∧ h.IsTuple a vs.toArray) :=
  Iter.ofWalks (Walks.tuple hh I a hne vs.toArray) hs.length.symm (fun i h st => let ⟨⟨o, e1, _, e2⟩, _⟩ := st; itNoCell (T := "") e1 e2) (seqFz ho) (seqIt hs) (fun i h st => let ⟨⟨o, e1, e2, _⟩, _⟩ := st; ⟨o, _, e1, e2, rfl⟩)

theorem isStrings_get : ∀ {a : List Nat} {i : Nat} {d : D}, (isStrings a)[i]? = some d → ∃ ch, a[i]? = some ch ∧ d = .str [ch]
  | [], i, d, h => by simp [isStrings] at h
  | ch :: r, 0, d, h => by simp [isStrings] at h; exact ⟨ch, rfl, h.symm⟩
  | ch :: r, i + 1, d, h => by simpa using isStrings_get (a := r) (i := i) (by simpa [isStrings] using h)
theorem isStrings_len : ∀ {a : List Nat}, (isStrings a).length = a.length
  | [] => rfl
  | _ :: r => by simp [isStrings, isStrings_len (a := r)]
theorem Iter.str {tg : Expr} {I : Addr} {a : List Nat} {t : Tok} (hh : A.handled = none) :
    Iter c A tg I [I] [I] F0 ρ0 (isStrings a) (fun i h => h.IsStrIter I "str_ascii_iterator" ⟨a.toArray⟩ t i) :=
  Iter.ofWalks (Walks.strAscii hh I ⟨a.toArray⟩ t) (by rw [isStrings_len]; simp) (fun i h st b hb => by simp at hb; subst hb; obtain ⟨o, e1, _, e2⟩ := st; exact ⟨o, e1, fun w q => by rw [e2] at q; cases q⟩)
    (fun b hb => .inl hb)
    (fun i v d hP hd => by obtain ⟨ch, q1, rfl⟩ := isStrings_get hd; obtain ⟨c', u, e1, rfl⟩ := hP; simp at e1; rw [q1] at e1; cases e1; exact .str [_] u)
    (fun i h st => by obtain ⟨o, e1, e2, _⟩ := st; exact ⟨o, _, e1, e2, by decide⟩)
theorem rangeD_get {a b : Int} {i : Nat} {d : D} (h : (rangeD a b)[i]? = some d) : d = .int (a + (i : Int)) := by
  unfold rangeD at h
  rw [List.getElem?_map] at h
  obtain ⟨k, h1, h2⟩ := Option.map_eq_some_iff.mp h
  rw [List.getElem?_range (by have := (List.getElem?_eq_some_iff.mp h1).1; simpa using this)] at h1
  cases h1
  exact h2.symm
theorem Iter.range {tg : Expr} {I : Addr} {a b : Int} (hh : A.handled = none) :
    Iter c A tg I [I] [I] F0 ρ0 (rangeD a b) (fun i h => IsRangeIter h I (a + (i : Nat) * 1) (((b - a).toNat : Int) - (i : Nat)) 1) :=
  Iter.ofWalks (Walks.range hh I a 1 (b - a).toNat) (by simp [rangeD]) (fun i h st b hb => by simp at hb; subst hb; exact ⟨_, st, fun w q => by cases q⟩)
    (fun b hb => .inl hb)
    (fun i v d hP hd => by obtain ⟨u, rfl⟩ := hP; rw [rangeD_get hd, Int.mul_one]; exact .int _ u)
    (fun i h st => ⟨_, _, st, rfl, by decide⟩)

/-- an iterator that hands out its own tuple -/
theorem Iter.ofWalksT {elts : List Expr} {kk : Nat} {pos : Pos} {I : Addr} {fp wr own : List Addr} {n : Nat} {ds : List D} {P : Nat → Array Value → Prop} {St : Nat → Heap → Prop} {Mid : Nat → Addr → Heap → Prop} (Wk : WalksT c.prog c.w A I fp wr n P St Mid) (hn : ds.length = n)
    (hwo : ∀ b ∈ wr, b ∈ own) (live : ∀ i h, St i h → ∀ b ∈ own, ∃ o, h.get? b = some o ∧ ∀ w, o.data ≠ .cell w) (frozen : ∀ b ∈ fp, b ∈ own ∨ ∃ o, F0.o b = some o)
    (val : ∀ i vals d, P i vals → ds[i]? = some d → ∃ xs, d = .tup xs ∧ Rvs c.C F0 ρ0 vals.toList xs) :
    Iter c A (.Tuple elts kk pos) I fp own F0 ρ0 ds St where
  frame := Wk.frame
  live := live
  frozen := frozen
  turn := fun i d s Q E hd st hQ => by
    have hi : i < n := by rw [← hn]; exact (List.getElem?_eq_some_iff.mp hd).1
    refine wpAny_with_toks (n := s.toks) (Nat.le_refl _) (Wk.item i s _ _ hi st fun T vals h1 tk hP hsz hT hm hk ht => ⟨.ref T, rfl, ?_⟩)
    have ht' : s.toks ≤ tk := ht
    refine Wk.go elts kk pos i T _ _ E hm fun h2 st2 hk2 => ?_
    obtain ⟨xs, rfl, hr⟩ := val i vals d hP hd
    obtain ⟨o, e1, e2, m, e3⟩ := hT
    have e1' : h2.get? T = some o := hk2 T o (Wk.apart i T _ hm) e1
    refine hQ (.ref T) _ (fun b o hb e => hk2 b o (fun q => hb (hwo b q)) (hk b o (fun q => hb (hwo b q)) e)) rfl rfl ht' st2 (.tup (vs := vals.toList) (n := m) (none_of_ge hsz) e1' e2 (by simpa using e3) hr)
  done := fun s Q E st hQ => by
    refine wpAny_with_toks (n := s.toks) (Nat.le_refl _) (Wk.done s _ _ (hn ▸ st) fun h' tk hk ht => ?_)
    have ht' : s.toks ≤ tk := ht
    exact hQ _ (fun b o hb e => hk b o (fun q => hb (hwo b q)) e) rfl rfl ht'
  self := Wk.self

theorem enumD_get : ∀ {xs : List D} {k i : Nat} {d : D}, (enumD k xs)[i]? = some d → ∃ x, xs[i]? = some x ∧ d = .tup [.int ((k + i : Nat) : Int), x]
  | [], k, i, d, h => by simp [enumD] at h
  | x :: xs, k, 0, d, h => by simp [enumD] at h; exact ⟨x, rfl, by simp [← h]⟩
  | x :: xs, k, i + 1, d, h => by
    obtain ⟨y, q1, q2⟩ := enumD_get (xs := xs) (k := k + 1) (i := i) (by simpa [enumD] using h)
    exact ⟨y, by simpa using q1, by rw [q2, show k + 1 + i = k + (i + 1) by omega]⟩
theorem enumD_len : ∀ {xs : List D} {k : Nat}, (enumD k xs).length = xs.length
  | [], _ => rfl
  | _ :: r, k => by simp [enumD, enumD_len (xs := r)]
theorem zipD_get : ∀ {xs ys : List D} {i : Nat} {d : D}, (zipD xs ys)[i]? = some d → ∃ x y, xs[i]? = some x ∧ ys[i]? = some y ∧ d = .tup [x, y]
  | [], _, i, d, h => by simp [zipD] at h
  | _ :: _, [], i, d, h => by simp [zipD] at h
  | x :: xs, y :: ys, 0, d, h => by simp [zipD] at h; exact ⟨x, y, rfl, rfl, h.symm⟩
  | x :: xs, y :: ys, i + 1, d, h => by simpa using zipD_get (xs := xs) (ys := ys) (i := i) (by simpa [zipD] using h)
theorem zipD_len : ∀ {xs ys : List D}, (zipD xs ys).length = min xs.length ys.length
  | [], _ => by simp [zipD]
  | _ :: _, [] => by simp [zipD]
  | _ :: xs, _ :: ys => by simp [zipD, zipD_len (xs := xs) (ys := ys)]

theorem guard1 {a : Addr} (w : W c nm X env fa F ρ vars σ s) (h : s.heap.get? a = none) : F.o a = none ∧ X a = none ∧ ∀ t, liveT σ t → a ∉ adrs fa ρ t := w.g.fresh h

theorem GuardOk.one {a : Addr} (w : W c nm X env fa F ρ vars σ s) (h : s.heap.get? a = none) : GuardOk F X fa ρ σ [a] := fun b hb => by rw [List.mem_singleton.mp hb]; exact w.g.fresh h
theorem itemsOf_inv {d : D} {ds : List D} (h : itemsOf d = some ds) : d = .lst ds ∨ d = .tup ds ∨ ∃ a, d = .str a ∧ ds = isStrings a ∧ a.all (· < 128) = true := by
  cases d with
  | lst xs => exact .inl (congrArg D.lst (Option.some.inj h))
  | tup xs => exact .inr (.inl (congrArg D.tup (Option.some.inj h)))
  | str a => exact .inr (.inr ⟨a, rfl, (Option.some.inj (iteT h).2).symm, (iteT h).1⟩)
  | _ => (first | exact noneE h | exact falseE h | exact nomatch h)
theorem EvI.of {tg it : Expr} {d d' : D} {ds : List D} (hh : A.handled = none) (h : EvV c nm X env fa A (eval it env) vars σ d σ1) (hf : Ev.frz σ1 d = some (d', σ')) (hi : itemsOf d' = some ds) : EvI c nm X env fa A tg it vars σ ds σ' := by
  intro F ρ s Q Ex w post
  refine h F ρ s _ Ex w fun F1 ρ1 v s1 l1 p1 w1 r1 => ?_
  obtain ⟨F2, l2, w2, r2⟩ := w1.frz r1 hf
  have hgo := GuardOk.one w2 (none_at_size s1.heap)
  rcases itemsOf_inv hi with rfl | rfl | ⟨a, rfl, rfl, hasc⟩
  · obtain ⟨a, o, vs, n, rfl, ho, hc, hd, hs⟩ := r2.inv
    have hl : s1.heap.IsList a (List.toArray vs) := ⟨_, w2.g.f _ _ ho, hc, _, hd⟩
    have hne : a ≠ s1.heap.objs.size := Nat.ne_of_lt (Heap.lt_size (w2.g.f _ _ ho))
    refine wpAny_pyIter_list hl ?_
    exact post F2 ρ1 _ _ _ _ _ (l1.trans l2) p1 (w2.keep .push) (Iter.list hh hne ho hs) ⟨⟨_, Heap.get?_push_size _ rfl, rfl, rfl⟩, hl.push _⟩ hgo
  · obtain ⟨a, o, vs, n, rfl, ho, hc, hd, hs⟩ := r2.inv
    have hl : s1.heap.IsTuple a (List.toArray vs) := ⟨_, w2.g.f _ _ ho, hc, _, hd⟩
    have hne : a ≠ s1.heap.objs.size := Nat.ne_of_lt (Heap.lt_size (w2.g.f _ _ ho))
    refine wpAny_pyIter_tuple hl ?_
    exact post F2 ρ1 _ _ _ _ _ (l1.trans l2) p1 (w2.keep .push) (Iter.tuple hh hne ho hs) ⟨⟨_, Heap.get?_push_size _ rfl, rfl, rfl⟩, hl.push _⟩ hgo
  · obtain ⟨t, rfl⟩ := r2.inv
    refine wpAny_pyIter_ascii (by simpa using hasc) ?_
    exact post F2 ρ1 _ _ _ _ _ (l1.trans l2) p1 (w2.keep .push) (Iter.str hh) ⟨_, Heap.get?_push_size _ rfl, rfl, rfl⟩ hgo

/-- the name of a built-in, then its call -/
theorem biCall {x : Str} {b : Bi} {T : String} {p pos : Pos} {args : List Expr} {ds : List D} {Q : Value → Shared → Prop} {Ex : Value → Shared → Prop} (Z : Bas c) (N : BiFree c) (hx : isGlob nm x = true) (hb : x = biName b) (hv : biVal b = .type T ∨ biVal b = .builtin T)
    (hns : (starEach args env).all (!·.1) = true) (ha : EvL c nm X env fa A (spliced (backTo pos (starEach args env))) vars σ ds σ1) (w : W c nm X env fa F ρ vars σ s)
    (h : ∀ F1 ρ1 vs s1, PLe F F1 → ρ <+: ρ1 → W c nm X env fa F1 ρ1 vars σ1 s1 → Rvs c.C F1 ρ1 vs ds → wpAny (model c.prog c.w) A (call (biVal b) vs) Q Ex s1) : wpAny (model c.prog c.w) A (eval (.Call (.Name x p) args [] pos) env) Q Ex s := by
  subst hb
  obtain ⟨hl, hdb⟩ := isGlob_lookup hx
  refine wpAny_bind (w.f.builtin Z w.g hl (N b) (boot_bi b).1 (boot_bi b).2 hdb ?_)
  rcases hv with hv | hv
  · rw [hv]
    refine CallT hns (ha F ρ s _ Ex w fun F1 ρ1 vs s1 l1 p1 w1 r1 => ?_)
    have := h F1 ρ1 vs s1 l1 p1 w1 r1
    rw [hv] at this; exact this
  · rw [hv]
    refine CallB hns (ha F ρ s _ Ex w fun F1 ρ1 vs s1 l1 p1 w1 r1 => ?_)
    have := h F1 ρ1 vs s1 l1 p1 w1 r1
    rw [hv] at this; exact this
end
end Ev
end
section
set_option maxRecDepth 100000
set_option autoImplicit false
set_option linter.all false
namespace Ev
open PySem PySem.W PySem.Calls PyProof.Rows PySem.SeqAt

theorem small_abs {i : Int} (h : small i = true) : i.natAbs < 2 ^ 62 := of_decide_eq_true h
theorem rangeSize_1 (a b : Int) : Builtin.Range.rangeSize a b 1 = ((b - a).toNat : Int) := by
  unfold Builtin.Range.rangeSize
  rw [if_pos (by decide)]
  split
  · rw [Int.ediv_one]; omega
  · omega
theorem range_small {a b : Int} (ha : small a = true) (hb : small b = true) : Builtin.Range.small a b 1 = true := by
  have h1 := small_abs ha
  have h2 := small_abs hb
  unfold Builtin.Range.small
  rw [rangeSize_1]
  have f : ∀ i : Int, i.natAbs < 2 ^ 63 → Builtin.Range.rangeFitsLong i = true := by
    intro i hi
    unfold Builtin.Range.rangeFitsLong
    simp only [Bool.and_eq_true, decide_eq_true_eq]
    omega
  rw [f a (by omega), f b (by omega), f 1 (by decide), f _ (by omega)]
  simp only [Bool.true_and, Bool.or_eq_true]
  right
  rw [if_pos (by decide)]
  exact f _ (by omega)

section
variable {c : Cx} {nm : Nm} {X : PMap} {fa : List (Option Addr)} {σ σ' σ1 σ2 σ3 : Sto} {env : Env} {vars vars' vars1 : Vars} {A : Around} {F F' F0 : FM} {ρ ρ' ρ0 : List (List Addr)} {s s' : Shared} {fl : Flw}

theorem Kp.mk2 {h' : Heap} {tk : Nat} (h : ∀ b o, s.heap.get? b = some o → h'.get? b = some o) (ht : s.toks ≤ tk) : Kp s { s with heap := h', toks := tk } := Kp.mk' h ht

theorem rangeOf_inv {ds : List D} {a b : Int} (e : rangeOf ds = some (a, b)) : small a = true ∧ small b = true ∧ (b - a).toNat ≤ maxLen ∧ ((ds = [.int b] ∧ a = 0) ∨ ds = [.int a, .int b]) := by
  match ds, e with
  | [x], e =>
    refine bindE (show ((intD x).bind fun b => if small b && decide (b.toNat ≤ maxLen) then some (0, b) else none) = some (a, b) from e) fun b' h1 h2 => ?_
    obtain ⟨hc, h2⟩ := iteT h2
    obtain ⟨rfl, rfl⟩ := pairI h2
    exact ⟨rfl, (and2 hc).1, by rw [Int.sub_zero]; exact of_decide_eq_true (and2 hc).2, .inl ⟨by rw [intD_inv h1], rfl⟩⟩
  | [x, y], e =>
    refine bindE (show ((intD x).bind fun a => (intD y).bind fun b => if small a && small b && decide ((b - a).toNat ≤ maxLen) then some (a, b) else none) = some (a, b) from e) fun a' h1 h2 => bindE h2 fun b' h3 h4 => ?_
    obtain ⟨hc, h4⟩ := iteT h4
    obtain ⟨rfl, rfl⟩ := pairI h4
    exact ⟨(and2 (and2 hc).1).1, (and2 (and2 hc).1).2, of_decide_eq_true (and2 hc).2, .inr (by rw [intD_inv h1, intD_inv h3])⟩
  | [], e => (first | exact noneE e | exact falseE e | exact nomatch e)
  | _ :: _ :: _ :: _, e => (first | exact noneE e | exact falseE e | exact nomatch e)
/-- the range itself -/
theorem callRange {ds : List D} {a b : Int} {vs : List Value} {Q : Value → Shared → Prop} {Ex : Value → Shared → Prop} (hr : Rvs c.C F ρ vs ds) (e : rangeOf ds = some (a, b)) (w : W c nm X env fa F ρ vars σ s)
    (h : ∀ r t u v s1, Kp s s1 → IsRange s1.heap r a b 1 t u v → Builtin.Range.small a b 1 = true → (b - a).toNat ≤ maxLen → Q (.ref r) s1) : wpAny (model c.prog c.w) A (call (.type "range") vs) Q Ex s := by
  obtain ⟨h1, h2, h3, ⟨rfl, rfl⟩ | rfl⟩ := rangeOf_inv e
  · obtain ⟨v, vs, rfl, r1, r2⟩ := hr.inv
    obtain rfl := (r2.inv : vs = [])
    obtain ⟨t, rfl⟩ := r1.inv
    exact call_range_1 (h _ _ _ _ _ (Kp.mk2 (fun b o e => Heap.get?_push_of_some _ e) (Nat.le_add_right s.toks 2)) (IsRange.new ..) (range_small h1 h2) h3)
  · obtain ⟨v, vs, rfl, r1, r2⟩ := hr.inv
    obtain ⟨v2, vs, rfl, r4, r3⟩ := r2.inv
    obtain rfl := (r3.inv : vs = [])
    obtain ⟨t, rfl⟩ := r1.inv
    obtain ⟨u, rfl⟩ := r4.inv
    exact call_range_2 (h _ _ _ _ _ (Kp.mk2 (fun b o e => Heap.get?_push_of_some _ e) (Nat.le_succ s.toks)) (IsRange.new ..) (range_small h1 h2) h3)

theorem EvI.range {tg : Expr} {x : Str} {p pos : Pos} {args : List Expr} {ds : List D} {a b : Int} (hh : A.handled = none) (Z : Bas c) (N : BiFree c) (hx : isGlob nm x = true) (hb : x = biName .range)
    (hns : (starEach args env).all (!·.1) = true) (ha : EvL c nm X env fa A (spliced (backTo pos (starEach args env))) vars σ ds σ1) (e : rangeOf ds = some (a, b)) :
    EvI c nm X env fa A tg (.Call (.Name x p) args [] pos) vars σ (rangeD a b) σ1 := by
  intro F ρ s Q Ex w post
  refine biCall (T := "range") Z N hx hb (.inl rfl) hns ha w fun F1 ρ1 vs s1 l1 p1 w1 r1 => ?_
  refine callRange r1 e w1 fun r t u v s2 k2 hr hsm hlen => ?_
  have w2 := w1.keep k2
  refine wpAny_pyIter_range hr hsm ?_
  have hgo := GuardOk.one w2 (none_at_size s2.heap)
  refine post F1 ρ1 _ _ _ _ _ l1 p1 (w2.keep .push) (Iter.range hh) ?_ hgo
  have := Heap.get?_push_size s2.heap (o := { cls := .type "range_iterator", data := .fields #[rawInt a, rawInt (Builtin.Range.rangeSize a b 1), rawInt 1] }) rfl
  rw [rangeSize_1] at this
  show IsRangeIter _ _ _ _ _
  simpa [rangeSize_1] using this

theorem rangeVals : ∀ (n : Nat) (f : Nat → Int) (l : List Value), l.length = n → (∀ (i : Nat) v, l[i]? = some v → ∃ t, v = .int (f i) t) → Rvs c.C F ρ l ((List.range n).map fun k => .int (f k))
  | 0, f, l, hl, _ => by rw [List.length_eq_zero_iff.mp hl]; exact .nil
  | n + 1, f, [], hl, hv => by first | exact noneE hl | exact falseE hl | exact nomatch hl
  | n + 1, f, v :: l, hl, hv => by
    rw [List.range_succ_eq_map, List.map_cons, List.map_map]
    obtain ⟨t, rfl⟩ := hv 0 v rfl
    exact .cons (.int _ t) (rangeVals n (fun k => f (k + 1)) l (Nat.succ.inj hl) fun i v h => hv (i + 1) v h)
theorem EvV.listRange {x y : Str} {p pos p' pos' : Pos} {args : List Expr} {ds : List D} {a b : Int} (hh : A.handled = none) (Z : Bas c) (N : BiFree c) (hy : isGlob nm y = true) (hyb : y = biName .list) (hx : isGlob nm x = true) (hb : x = biName .range)
    (hs1 : starEach [Expr.Call (.Name x p) args [] pos] env = (false, eval (.Call (.Name x p) args [] pos) env) :: starEach [] env) (hns : (starEach args env).all (!·.1) = true) (ha : EvL c nm X env fa A (spliced (backTo pos (starEach args env))) vars σ ds σ1) (e : rangeOf ds = some (a, b)) :
    EvV c nm X env fa A (eval (.Call (.Name y p') [.Call (.Name x p) args [] pos] [] pos') env) vars σ (.lst (rangeD a b)) σ1 := by
  intro F ρ s Q Ex w post
  subst hyb
  obtain ⟨hl, hdb⟩ := isGlob_lookup hy
  refine wpAny_bind (w.f.builtin Z w.g hl (N .list) (boot_bi .list).1 (boot_bi .list).2 hdb ?_)
  refine CallT (T := "list") (by rw [hs1]; rfl) ?_
  rw [hs1]
  refine spliced_cons ?_
  refine biCall (T := "range") Z N hx hb (.inl rfl) hns ha w fun F1 ρ1 vs s1 l1 p1 w1 r1 => ?_
  refine callRange r1 e w1 fun r t u v s2 k2 hr hsm hlen => spliced_nil ?_
  have w2 := w1.keep k2
  show wpAny _ _ (call (.type "list") [.ref r]) _ _ _
  refine wpAny_with_toks (n := s2.toks) (Nat.le_refl _) (call_list_range hh hr hsm (rangeSize_1 a b) (by unfold maxLen at hlen; omega) fun h' tk acc c' hk hg hit ht => ?_)
  have ht' : s2.toks ≤ tk := ht
  have hall : Rvs c.C F1 ρ1 acc.toList (rangeD a b) := rangeVals _ (fun k => a + (k : Int)) _ (Array.length_toList.trans hit.1) fun i v hv => by
    obtain ⟨t, e⟩ := hit.2 i v (by rw [← Array.getElem?_toList]; exact hv)
    exact ⟨t, by rw [e, Int.mul_one]⟩
  obtain ⟨F2, l2, w3, r3⟩ := w2.res (Kp.mk2 hk ht') (.lst (vs := acc.toList) (n := c') (none_at_size s2.heap) hg rfl (by simp) hall)
  exact post F2 ρ1 _ _ (l1.trans l2) p1 w3 r3
end
end Ev
end
section
set_option maxRecDepth 100000
set_option autoImplicit false
set_option linter.all false
namespace Ev
open PySem PySem.W PySem.Calls PyProof.Rows PySem.SeqAt

theorem zipApart_of (k a b : Nat) (ha : a < k) (hb : b < k) : ZipApart (k + 4) (k + 2) (k + 3) k (k + 1) a b := by
  constructor <;> (show (_ : Nat) ≠ _; omega)

section
variable {c : Cx} {nm : Nm} {X : PMap} {fa : List (Option Addr)} {σ σ' σ1 σ2 σ3 σ4 : Sto} {env : Env} {vars vars' vars1 : Vars} {A : Around} {F F' F0 : FM} {ρ ρ' ρ0 : List (List Addr)} {s s' : Shared} {fl : Flw}

theorem EvI.enum {elts : List Expr} {kk : Nat} {tp : Pos} {x : Str} {p pos : Pos} {e : Expr} {d : D} {xs : List D} (hh : A.handled = none) (Z : Bas c) (N : BiFree c) (hx : isGlob nm x = true) (hb : x = biName .enumerate)
    (hs : starEach [e] env = (false, eval e env) :: starEach [] env) (he : EvV c nm X env fa A (eval e env) vars σ d σ1) (hf : Ev.frz σ1 d = some (.lst xs, σ2)) :
    EvI c nm X env fa A (.Tuple elts kk tp) (.Call (.Name x p) [e] [] pos) vars σ (enumD 0 xs) σ2 := by
  intro F ρ s Q Ex w post
  refine biCall (T := "enumerate") Z N hx hb (.inl rfl) (by rw [hs]; rfl) (EvL.cons (ds := []) hs he EvL.nil) w fun F1 ρ1 vs s1 l1 p1 w1 r1 => ?_
  obtain ⟨v, vs, rfl, rv, rn⟩ := r1.inv
  obtain rfl := (rn.inv : vs = [])
  obtain ⟨F2, l2, w2, r2⟩ := w1.frz rv hf
  obtain ⟨a, o, us, n, rfl, ho, hc, hd, hs'⟩ := r2.inv
  have hl : s1.heap.IsList a us.toArray := ⟨_, w2.g.f _ _ ho, hc, _, hd⟩
  have halt : a < s1.heap.objs.size := Heap.lt_size (w2.g.f _ _ ho)
  show wpAny _ _ (call (.type "enumerate") [.ref a]) _ _ _
  refine call_enumerate_list hl fun h' q1 q2 q3 q4 => ?_
  have w3 : W c nm X env fa F2 ρ1 vars σ2 { s1 with heap := h' } := w2.keep (Kp.mk2 (tk := s1.toks) q4 (Nat.le_refl _))
  have hne1 : s1.heap.objs.size + 1 ≠ s1.heap.objs.size := Nat.succ_ne_self _
  refine wpAny_pyIter_enum (s := { s1 with heap := h' }) q1 ?_
  refine post F2 ρ1 _ _ [s1.heap.objs.size + 1, s1.heap.objs.size] _ _ (l1.trans l2) p1 w3
    (Iter.ofWalksT (WalksT.enumerate hh (s1.heap.objs.size + 1) s1.heap.objs.size a hne1 (Nat.ne_of_lt (Nat.lt_succ_of_lt halt)) (Nat.ne_of_lt halt) us.toArray) (by rw [enumD_len]; simp [hs'.length]) (fun b hb => hb) ?_ ?_ ?_)
    ⟨⟨_, q1⟩, q2, hl.at fun o e => q4 a o e⟩ ?_
  · intro i h st b hb
    obtain ⟨⟨old, e1⟩, ⟨o2, e2, _, e3⟩, _⟩ := st
    simp at hb
    rcases hb with rfl | rfl
    · exact ⟨_, e1, fun w q => by cases q⟩
    · exact ⟨_, e2, fun w q => by rw [e3] at q; cases q⟩
  · intro b hb
    simp at hb
    rcases hb with rfl | rfl | rfl
    · exact .inl (by simp)
    · exact .inl (by simp)
    · exact .inr ⟨_, ho⟩
  · intro i vals d hP hd
    obtain ⟨t, u, e1, rfl⟩ := hP
    obtain ⟨y, e2, rfl⟩ := enumD_get hd
    obtain ⟨u', e3, ru⟩ := hs'.get e2
    simp at e1
    rw [e3] at e1; cases e1
    refine ⟨_, rfl, .cons ?_ (.cons ru .nil)⟩
    rw [Nat.zero_add]; exact .int _ t
  · intro b hb
    simp at hb
    have : s1.heap.objs.size ≤ b := by rcases hb with rfl | rfl <;> omega
    exact w2.g.fresh (none_of_ge this)

theorem EvI.zip {elts : List Expr} {kk : Nat} {tp : Pos} {x : Str} {p pos : Pos} {e1 e2 : Expr} {d1 d2 : D} {xs ys : List D} (hh : A.handled = none) (Z : Bas c) (N : BiFree c) (hx : isGlob nm x = true) (hb : x = biName .zip)
    (hs1 : starEach [e1, e2] env = (false, eval e1 env) :: starEach [e2] env) (hs2 : starEach [e2] env = (false, eval e2 env) :: starEach [] env)
    (h1 : EvV c nm X env fa A (eval e1 env) vars σ d1 σ1) (hf1 : Ev.frz σ1 d1 = some (.lst xs, σ2)) (h2 : EvV c nm X env fa A (eval e2 env) vars σ2 d2 σ3) (hf2 : Ev.frz σ3 d2 = some (.lst ys, σ4)) :
    EvI c nm X env fa A (.Tuple elts kk tp) (.Call (.Name x p) [e1, e2] [] pos) vars σ (zipD xs ys) σ4 := by
  intro F ρ s Q Ex w post
  subst hb
  obtain ⟨hgl, hdb⟩ := isGlob_lookup hx
  refine wpAny_bind (w.f.builtin Z w.g hgl (N .zip) (boot_bi .zip).1 (boot_bi .zip).2 hdb ?_)
  refine CallT (T := "zip") (by rw [hs1, hs2]; rfl) ?_
  rw [hs1]
  refine spliced_cons (h1 F ρ s _ Ex w fun F1 ρ1 v1 s1 l1 p1 w1 r1 => ?_)
  obtain ⟨F2, l2, w2, r2⟩ := w1.frz r1 hf1
  rw [hs2]
  refine spliced_cons (h2 F2 ρ1 s1 _ Ex w2 fun F3 ρ3 v3 s3 l3 p3 w3 r3 => spliced_nil ?_)
  obtain ⟨F4, l4, w4, r4⟩ := w3.frz r3 hf2
  obtain ⟨a, o, us, n, rfl, ho, hc, hd, hr⟩ := (r2.mono (l3.trans l4) p3).inv
  obtain ⟨b, o', us', n', rfl, ho', hc', hd', hr'⟩ := r4.inv
  have hl : s3.heap.IsList a us.toArray := ⟨_, w4.g.f _ _ ho, hc, _, hd⟩
  have hl' : s3.heap.IsList b us'.toArray := ⟨_, w4.g.f _ _ ho', hc', _, hd'⟩
  have halt : a < s3.heap.objs.size := Heap.lt_size (w4.g.f _ _ ho)
  have hblt : b < s3.heap.objs.size := Heap.lt_size (w4.g.f _ _ ho')
  show wpAny _ _ (call (.type "zip") [.ref a, .ref b]) _ _ _
  refine call_zip_2 hl hl' fun h' q1 q2 q3 q4 q5 q6 q7 => ?_
  have w5 : W c nm X env fa F4 ρ3 vars σ4 { s3 with heap := h' } := w4.keep (Kp.mk2 (tk := s3.toks) q7 (Nat.le_refl _))
  have ap : ZipApart (s3.heap.objs.size + 4) (s3.heap.objs.size + 2) (s3.heap.objs.size + 3) s3.heap.objs.size (s3.heap.objs.size + 1) a b := by
    exact zipApart_of _ _ _ halt hblt
  refine wpAny_pyIter_zip (s := { s3 with heap := h' }) q1 ?_
  refine post F4 ρ3 _ _ [s3.heap.objs.size + 4, s3.heap.objs.size + 2, s3.heap.objs.size + 3, s3.heap.objs.size, s3.heap.objs.size + 1] _ _ ((l1.trans l2).trans (l3.trans l4)) (p1.trans p3) w5
    (Iter.ofWalksT (WalksT.zip2 hh _ _ _ _ _ a b ap us.toArray us'.toArray) (by rw [zipD_len]; simp [hr.length, hr'.length]) ?_ ?_ ?_ ?_)
    ⟨q1, q2, ⟨_, _, q3⟩, q4, q5, hl.at fun o e => q7 a o e, hl'.at fun o e => q7 b o e⟩ ?_
  · intro b hb; simp at hb ⊢; rcases hb with rfl | rfl | rfl | rfl <;> simp
  · intro i h st b hb
    obtain ⟨e1, e2, ⟨_, _, e3⟩, ⟨_, e4, _, e5⟩, ⟨_, e6, _, e7⟩, _⟩ := st
    simp at hb
    rcases hb with rfl | rfl | rfl | rfl | rfl
    · exact ⟨_, e1, fun w q => by cases q⟩
    · exact ⟨_, e2, fun w q => by cases q⟩
    · exact ⟨_, e3, fun w q => by cases q⟩
    · exact ⟨_, e4, fun w q => by rw [e5] at q; cases q⟩
    · exact ⟨_, e6, fun w q => by rw [e7] at q; cases q⟩
  · intro b' hb
    simp at hb
    rcases hb with rfl | rfl | rfl | rfl | rfl | rfl | rfl
    · exact .inl (by simp)
    · exact .inl (by simp)
    · exact .inl (by simp)
    · exact .inl (by simp)
    · exact .inl (by simp)
    · exact .inr ⟨_, ho⟩
    · exact .inr ⟨_, ho'⟩
  · intro i vals d hP hd
    obtain ⟨u, u', e1, e2, rfl⟩ := hP
    obtain ⟨y, y', e3, e4, rfl⟩ := zipD_get hd
    obtain ⟨z, e5, rz⟩ := hr.get e3
    obtain ⟨z', e6, rz'⟩ := hr'.get e4
    simp at e1 e2
    rw [e5] at e1; cases e1
    rw [e6] at e2; cases e2
    exact ⟨_, rfl, .cons rz (.cons rz' .nil)⟩
  · intro b' hb
    simp at hb
    have : s3.heap.objs.size ≤ b' := by rcases hb with rfl | rfl | rfl | rfl | rfl <;> omega
    exact w4.g.fresh (none_of_ge this)
end
end Ev
end
section
set_option maxRecDepth 100000
set_option autoImplicit false
set_option linter.all false
namespace Ev
open PySem PySem.W PySem.Calls PyProof.Rows PySem.SeqAt

/-! the cells of a comprehension -/
noncomputable def closL (env : Env) : List (Str × NameKind) → List (Str × Addr) → List (Str × Addr)
  | [], acc => acc
  | (x, k) :: r, acc => if k == .free then closL env r ((x, (env.cells.lookup x).getD 0) :: acc) else closL env r acc
theorem closureFor_eq {scope : Scope} {env : Env} (h : ∀ x, (x, NameKind.free) ∈ scope.names → ∃ a, env.cells.lookup x = some a) : closureFor scope env = pure (closL env scope.names []) := by
  have main : ∀ (f : Str × NameKind → List (Str × Addr) → Sem (ForInStep (List (Str × Addr)))), (∀ x k cs, f (x, k) cs = if k == .free then (do let a ← cellOf env x; pure (ForInStep.yield ((x, a) :: cs))) else pure (ForInStep.yield cs)) →
      ∀ (l : List (Str × NameKind)) (acc : List (Str × Addr)), (∀ x, (x, NameKind.free) ∈ l → ∃ a, env.cells.lookup x = some a) → forIn l acc f = (pure (closL env l acc) : Sem _) := by
    intro f hf l
    induction l with
    | nil => intro acc _; rfl
    | cons p r ih =>
      obtain ⟨x, k⟩ := p
      intro acc hl
      rw [List.forIn_cons, hf]
      unfold closL
      by_cases hk : (k == NameKind.free) = true
      · rw [if_pos hk, if_pos hk]
        have hk' : k = .free := by simpa using hk
        subst hk'
        obtain ⟨a, ha⟩ := hl x (by simp)
        have hc : cellOf env x = pure a := by unfold cellOf; rw [ha]
        rw [hc, ha]
        exact ih _ fun y hy => hl y (by simp [hy])
      · rw [if_neg hk, if_neg hk]
        exact ih _ fun y hy => hl y (by simp [hy])
  unfold closureFor
  dsimp only
  rw [main _ (fun x k cs => rfl) scope.names [] h]
  rfl
theorem closL_miss {env : Env} {x : Str} : ∀ {l : List (Str × NameKind)} {acc : List (Str × Addr)}, (∀ k, (x, k) ∉ l) → (closL env l acc).lookup x = acc.lookup x
  | [], acc, _ => rfl
  | (y, k) :: r, acc, h => by
    have hr : ∀ k, (x, k) ∉ r := fun k' hm => h k' (by simp [hm])
    have hne : (x == y) = false := by rw [beq_eq_false_iff_ne]; intro q; subst q; exact h k (by simp)
    unfold closL
    split
    · rw [closL_miss hr, List.lookup_cons, hne]
    · exact closL_miss hr
theorem closL_hit {env : Env} {x : Str} {a : Addr} (ha : env.cells.lookup x = some a) : ∀ {l : List (Str × NameKind)} {acc : List (Str × Addr)}, (l.map (·.1)).Nodup → (x, NameKind.free) ∈ l → (closL env l acc).lookup x = some a
  | [], acc, _, h => by simp at h
  | (y, k) :: r, acc, nd, h => by
    simp only [List.map_cons, List.nodup_cons] at nd
    unfold closL
    rcases List.mem_cons.mp h with e | hm
    · cases e
      rw [if_pos (by decide), closL_miss fun k hm => nd.1 (List.mem_map.mpr ⟨_, hm, rfl⟩), List.lookup_cons, beq_self_eq_true, ha]; rfl
    · split
      · exact closL_hit ha nd.2 hm
      · exact closL_hit ha nd.2 hm
theorem cellsFrom_app : ∀ (names : List (Str × NameKind)) (n : Nat) (acc : List (Str × Addr)), cellsFrom n names acc = cellsFrom n names [] ++ acc
  | [], n, acc => rfl
  | (x, k) :: r, n, acc => by
    unfold cellsFrom
    split
    · rw [cellsFrom_app r (n + 1) ((x, n) :: acc), cellsFrom_app r (n + 1) [(x, n)]]; simp
    · exact cellsFrom_app r n acc
theorem cellsFrom_mem : ∀ {names : List (Str × NameKind)} {n : Nat} {acc : List (Str × Addr)} {x : Str} {a : Addr}, (x, a) ∈ cellsFrom n names acc → (x, NameKind.cell) ∈ names ∨ (x, a) ∈ acc
  | [], n, acc, x, a, h => .inr h
  | (y, k) :: r, n, acc, x, a, h => by
    unfold cellsFrom at h
    split at h
    · rename_i hk
      rcases cellsFrom_mem h with h1 | h1
      · exact .inl (by simp [h1])
      · rcases List.mem_cons.mp h1 with e | e
        · have hk' : k = .cell := by simpa using hk
          cases e; subst hk'; exact .inl (by simp)
        · exact .inr e
    · rcases cellsFrom_mem h with h1 | h1
      · exact .inl (by simp [h1])
      · exact .inr h1
theorem lookup_app {α : Type} {x : Str} : ∀ {l r : List (Str × α)}, (l ++ r).lookup x = (l.lookup x).or (r.lookup x)
  | [], r => by simp
  | (y, a) :: l, r => by
    rw [List.cons_append, List.lookup_cons, List.lookup_cons]
    split
    · rfl
    · exact lookup_app
theorem lookup_none_of {α : Type} {x : Str} : ∀ {l : List (Str × α)}, (∀ a, (x, a) ∉ l) → l.lookup x = none
  | [], _ => rfl
  | (y, a) :: l, h => by
    have hne : (x == y) = false := by rw [beq_eq_false_iff_ne]; intro q; subst q; exact h a (by simp)
    rw [List.lookup_cons, hne]
    exact lookup_none_of fun b hb => h b (by simp [hb])

section
variable {prog : Program} {w : World} {A : Around} {E : Value → Shared → Prop} {R : Result → Shared → Prop} {s : Shared}
theorem compLoop_any {elt target iter : Expr} {ifs : List Expr} {scope : Scope} {pos : Pos} {it acc : Value} {env : Env} (I : Nat → Shared → Prop)
    (turn : ∀ n s, I n s → wpAny (model prog w) A (pyNext it) (fun r s₁ => match r with
      | none => R (.ok .next) s₁
      | some v => wpAny (model prog w) A (letOwnedTupleGo target it v) (fun _ s₁' => wpAny (model prog w) A (assign target env v) (fun _ s₂ =>
          wpAny (model prog w) A (forIn ifs true fun c r => if r = true then do let ok ← isTrue c env (eval c env); pure (ForInStep.yield ok) else pure (ForInStep.yield r)) (fun ok s₃ =>
            if ok = true then wpAny (model prog w) A (eval elt env) (fun x s₄ =>
              wpAny (model prog w) A (call (.builtin "list.append") [acc, x]) (fun _ s₅ => ∃ m, m < n ∧ I m s₅) (notedBy (model prog w) A env fun e s' => R (.error e) s') s₄) (notedBy (model prog w) A env fun e s' => R (.error e) s') s₃
            else ∃ m, m < n ∧ I m s₃) (notedBy (model prog w) A env fun e s' => R (.error e) s') s₂) (notedBy (model prog w) A env fun e s' => R (.error e) s') s₁') (notedBy (model prog w) A env fun e s' => R (.error e) s') s₁) (notedBy (model prog w) A env fun e s' => R (.error e) s') s)
    (n : Nat) (h : I n s) :
    codeAny (model prog w) A (.compLoop (.ListComp elt [⟨target, iter, ifs, 0⟩] scope pos) 0 it acc env) R s := by
  refine codeAny_loop rfl I (fun n s hI => ?_) n h
  show wpAny _ A ((compTurn (.ListComp elt [⟨target, iter, ifs, 0⟩] scope pos) 0 it acc env).onRaise (fun x => do noteFrame x env; theTreesLotGoes x)) _ _ s
  refine wpAny_noted ?_
  rw [compTurn_list]
  refine wpAny_bind (wpAny_standAt (wpAny_bind (wpAny_mono (turn n s hI) (fun r s₁ h₁ => ?_) fun _ _ h' => h')))
  cases r with
  | none => exact wpAny_pure h₁
  | some v =>
    refine wpAny_bind (wpAny_mono h₁ (fun _ s₁' h₁' => ?_) fun _ _ h' => h')
    refine wpAny_bind (wpAny_mono h₁' (fun _ s₂ h₂ => wpAny_bind (wpAny_mono h₂ (fun ok s₃ h₃ => ?_) fun _ _ h' => h')) fun _ _ h' => h')
    cases ok with
    | false => exact wpAny_pure ⟨rfl, h₃⟩
    | true =>
      exact wpAny_bind (wpAny_bind (wpAny_mono h₃ (fun x s₄ h₄ => wpAny_bind (wpAny_mono h₄ (fun _ s₅ h₅ => wpAny_pure (wpAny_pure ⟨rfl, h₅⟩)) fun _ _ h' => h')) fun _ _ h' => h'))
end

section
variable {c : Cx} {nm : Nm} {X : PMap} {fa : List (Option Addr)} {σ σ' σ1 σ2 σ3 σ4 : Sto} {env : Env} {vars vars' vars1 : Vars} {A : Around} {F F' F0 : FM} {ρ ρ' ρ0 : List (List Addr)} {s s' : Shared} {fl : Flw}

theorem Iter.step2 {tg : Expr} {I : Addr} {fp own own' : List Addr} {ds : List D} {St : Nat → Heap → Prop} (it : Iter c A tg I fp own F0 ρ0 ds St) (hsub : ∀ b ∈ own, b ∈ own') (w : W c nm X env fa F ρ vars σ s) (hg : GuardOk F X fa ρ σ own') (hlv : ∀ b ∈ own', ∃ o, s.heap.get? b = some o) (le : PLe F0 F) (hp : ρ0 <+: ρ)
    {i : Nat} {d : D} (hd : ds[i]? = some d) (st : St i s.heap) {Q : Value → Shared → Prop} {E : Value → Shared → Prop}
    (post : ∀ v s' F', PLe F F' → W c nm X env fa F' ρ vars σ s' → GuardOk F' X fa ρ σ own' → St (i + 1) s'.heap → Rv c.C F' ρ v d → (∀ b o, b ∉ own → s.heap.get? b = some o → s'.heap.get? b = some o) → Q v s') :
    wpAny (model c.prog c.w) A (pyNext (.ref I)) (fun r s1 => ∃ v, r = some v ∧ wpAny (model c.prog c.w) A (letOwnedTupleGo tg (.ref I) v) (fun _ s2 => Q v s2) E s1) E s := by
  refine it.turn i d s Q E hd st fun v s' hk h1 h2 h3 st' r => ?_
  have w' := w.keepBut (own := own') hg (fun b o hb e => hk b o (fun q => hb (hsub b q)) e) h1 h2 h3
  obtain ⟨F', l, w2, g2, r2⟩ := w.res2 w' hg hlv (r.mono le hp)
  exact post v s' F' l w2 g2 st' r2 hk

/-- where the loop of a comprehension stands -/
structure CmpI (c : Cx) (nm : Nm) (X : PMap) (env : Env) (fa : List (Option Addr)) (Da : Addr) (own : List Addr) (St : Nat → Heap → Prop) (ds rs : List D) (f : D → Vars → Sto → Option (Option D × Vars × Sto)) (σ' : Sto)
    (i : Nat) (F : FM) (ρ : List (List Addr)) (vars : Vars) (σ : Sto) (ws : List Value) (m : Nat) (done rest : List D) (s : Shared) : Prop where
  le : i ≤ ds.length
  w : W c nm X env fa F ρ vars σ s
  g : GuardOk F X fa ρ σ (Da :: own)
  st : St i s.heap
  hD : s.heap.get? Da = some { cls := .type "list", data := .seq ws.toArray m }
  ws : Rvs c.C F ρ ws done
  dl : done.length ≤ i
  rs : rs = done ++ rest
  e : compD f (ds.drop i) vars σ = some (rest, σ')
noncomputable def CmpX (c : Cx) (nm : Nm) (X : PMap) (env : Env) (fa : List (Option Addr)) (Da : Addr) (own : List Addr) (St : Nat → Heap → Prop) (ds rs : List D) (f : D → Vars → Sto → Option (Option D × Vars × Sto)) (σ' : Sto) (F0 : FM) (ρ0 : List (List Addr)) (n : Nat) (s : Shared) : Prop :=
  ∃ i F2 ρ2 vars2 σ2 ws m done rest, n = ds.length + 1 - i ∧ PLe F0 F2 ∧ ρ0 <+: ρ2 ∧ CmpI c nm X env fa Da own St ds rs f σ' i F2 ρ2 vars2 σ2 ws m done rest s
/-- one turn -/
noncomputable def turnD (T : Ev.T) (tst : Vars → Sto → Option (Bool × Sto)) (el : Vars → Sto → Option (D × Sto)) (d : D) (vs : Vars) (σ : Sto) : Option (Option D × Vars × Sto) :=
  (asgT T d vs).bind fun vs => (tst vs σ).bind fun (ok, σ) => if ok then (el vs σ).map fun (r, σ) => (some r, vs, σ) else some (none, vs, σ)
/-- the loop's body, once the item is there -/
noncomputable def turnS (c : Cx) (A : Around) (env : Env) (t elt : Expr) (ifs : List Expr) (Da : Addr) (E : Value → Shared → Prop) (P : Shared → Prop) (v : Value) (s : Shared) : Prop :=
  wpAny (model c.prog c.w) A (assign t env v) (fun _ s₂ =>
    wpAny (model c.prog c.w) A (forIn ifs true fun c r => if r = true then do let ok ← isTrue c env (eval c env); pure (ForInStep.yield ok) else pure (ForInStep.yield r)) (fun ok s₃ =>
      if ok = true then wpAny (model c.prog c.w) A (eval elt env) (fun x s₄ => wpAny (model c.prog c.w) A (call (.builtin "list.append") [.ref Da, x]) (fun _ s₅ => P s₅) E s₄) E s₃
      else P s₃) E s₂) E s
theorem Iter.liveD {tg : Expr} {I Da : Addr} {fp own : List Addr} {ds : List D} {St : Nat → Heap → Prop} (it : Iter c A tg I fp own F0 ρ0 ds St) {j : Nat} {h : Heap} {vs : Array Value} {m : Nat} (st : St j h) (hd : h.get? Da = some { cls := .type "list", data := .seq vs m }) :
    ∀ b ∈ Da :: own, ∃ o, h.get? b = some o ∧ ∀ w, o.data ≠ .cell w := fun b hb => by
  rcases List.mem_cons.mp hb with rfl | hb
  · exact ⟨_, hd, fun w q => nomatch q⟩
  · exact it.live _ _ st b hb
theorem Iter.noD {tg : Expr} {I Da : Addr} {fp own : List Addr} {ds : List D} {St : Nat → Heap → Prop} (it : Iter c A tg I fp own F0 ρ0 ds St) (hDo : Da ∉ own) (le : PLe F0 F) (hn : F.o Da = none) {h h' : Heap} {i : Nat} (st : St i h) (hs : ∀ b, b ≠ Da → h'.get? b = h.get? b) : St i h' := by
  refine it.frame _ _ _ st fun b hb o e => (hs b fun q => ?_).trans e
  subst q
  rcases it.frozen b hb with ho | ⟨o', ho⟩
  · exact hDo ho
  · rw [le.o b o' ho] at hn; (first | exact noneE hn | exact falseE hn | exact nomatch hn)
theorem CmpI.size {Da : Addr} {own : List Addr} {St : Nat → Heap → Prop} {ds rs : List D} {f : D → Vars → Sto → Option (Option D × Vars × Sto)} {i : Nat} {ws : List Value} {m : Nat} {done rest : List D} (h : CmpI c nm X env fa Da own St ds rs f σ' i F ρ vars σ ws m done rest s) (hlen : ds.length ≤ maxLen) : ws.toArray.size ≤ sizeLine := by
  show ws.length ≤ sizeLine
  rw [h.ws.length]
  exact size_of_maxLen (Nat.le_trans (Nat.le_trans h.dl h.le) hlen)
theorem CmpI.turn {elt t iter : Expr} {ifs : List Expr} {T : Ev.T} {I Da : Addr} {fp own : List Addr} {ds rs : List D} {St : Nat → Heap → Prop} {Ex : Value → Shared → Prop}
    {tst : Vars → Sto → Option (Bool × Sto)} {el : Vars → Sto → Option (D × Sto)} (hh : A.handled = none) (ht : isT nm T t = true) (it : Iter c A t I fp own F0 ρ0 ds St) (hDo : Da ∉ own) (hlen : ds.length ≤ maxLen)
    (hts : ∀ X' vars σ b σ', tst vars σ = some (b, σ') → EvB c nm X' env fa A (forIn ifs true fun c r => if r = true then do let ok ← isTrue c env (eval c env); pure (ForInStep.yield ok) else pure (ForInStep.yield r)) vars σ b σ')
    (hel : ∀ X' vars σ d σ', el vars σ = some (d, σ') → EvV c nm X' env fa A (eval elt env) vars σ d σ')
    {i : Nat} {ws : List Value} {m : Nat} {done rest : List D} (l2 : PLe F0 F) (p2 : ρ0 <+: ρ) (h : CmpI c nm X env fa Da own St ds rs (turnD T tst el) σ' i F ρ vars σ ws m done rest s) (hlt : i < ds.length) :
    wpAny (model c.prog c.w) A (pyNext (.ref I)) (fun r s1 => ∃ v, r = some v ∧ wpAny (model c.prog c.w) A (letOwnedTupleGo t (.ref I) v) (fun _ s2 => turnS c A env t elt ifs Da Ex (fun s5 => ∃ mm, mm < ds.length + 1 - i ∧ CmpX c nm X env fa Da own St ds rs (turnD T tst el) σ' F0 ρ0 mm s5) v s2) Ex s1) Ex s := by
  have e2 := h.e
  rw [List.drop_eq_getElem_cons hlt] at e2
  refine bindE (show ((turnD T tst el ds[i] vars σ).bind fun r => (compD (turnD T tst el) (ds.drop (i + 1)) r.2.1 r.2.2).map fun q => (consO r.1 q.1, q.2)) = some (rest, σ') from e2) fun r hr e3 => bindE hr fun vars3 ha e4 => bindE e4 fun q htv e5 => mapE e3 fun q2 hcd e6 => ?_
  obtain ⟨rest', σ''⟩ := q2
  obtain ⟨hre, rfl⟩ := Prod.mk.inj e6
  refine it.step2 (own' := Da :: own) (fun b hb => List.mem_cons_of_mem _ hb) h.w h.g (fun b hb => let ⟨o, e, _⟩ := it.liveD h.st h.hD b hb; ⟨o, e⟩) l2 p2 (List.getElem?_eq_getElem hlt) h.st fun v s3 F3 l3 w3 hg3 st3 r3 hk3 => ?_
  have hD3 := hk3 Da _ hDo h.hD
  have hXn : ∀ b ∈ Da :: own, X b = none := fun b hb => (hg3 b hb).2.1
  have hlv := it.liveD st3 hD3
  refine EvA.target (X := hid (· ∈ Da :: own) X s3.heap) hh ht ha F3 ρ σ s3 v _ _ (w3.guardL hg3) r3 fun s4 w4 => ?_
  obtain ⟨ok, σ3⟩ := q
  refine hts _ _ _ _ _ htv F3 ρ s4 _ _ w4 fun F5 ρ5 s5 l5 p5 w5 => ?_
  have LL := l2.trans (l3.trans l5)
  have PP := p2.trans p5
  have stay : ∀ {F6 : FM} {s6 : Shared}, PLe F3 F6 → (∀ a o, F6.o a = some o → s6.heap.get? a = some o) → (∀ b ∈ Da :: own, ∀ o, s3.heap.get? b = some o → s6.heap.get? b = some o) → St (i + 1) s6.heap := fun l f k =>
    it.stay st3 (fun a o h => w3.g.f a o ((l2.trans l3).o a o h)) (fun a o h => f a o ((l2.trans (l3.trans l)).o a o h)) fun b hb o e => k b (List.mem_cons_of_mem _ hb) o e
  cases ok with
  | false =>
    obtain ⟨w6, k6, hg6⟩ := w5.unguardL hXn hlv
    cases e5
    exact ⟨_, sub_lt hlt, i + 1, F5, ρ5, vars3, σ3, ws, m, done, rest, rfl, LL, PP, hlt, w6, hg6, stay l5 w6.g.f k6, k6 Da List.mem_cons_self _ hD3, h.ws.mono (l3.trans l5) p5, Nat.le_succ_of_le h.dl, h.rs, by rw [← hre]; exact hcd⟩
  | true =>
    refine mapE (show ((el vars3 σ3).map fun p => (some p.1, vars3, p.2)) = some r from e5) fun p hev e7 => ?_
    obtain ⟨d, σ4⟩ := p
    cases e7
    refine hel _ _ _ _ _ hev F5 ρ5 s5 _ _ w5 fun F7 ρ7 u s7 l7 p7 w7 r7 => ?_
    obtain ⟨w8, k8, hg8⟩ := w7.unguardL hXn hlv
    refine wpAny_list_append_plain ⟨m, k8 Da List.mem_cons_self _ hD3⟩ (fun h' hpl hs' => ?_) (h.size hlen)
    obtain ⟨m', hpl⟩ := hpl
    have hpl' : h'.get? Da = some { cls := .type "list", data := .seq (ws ++ [u]).toArray m' } := by rw [hpl, List.push_toArray]
    refine ⟨_, sub_lt hlt, i + 1, F7, ρ7, vars3, σ4, ws ++ [u], m', done ++ [d], rest', rfl, LL.trans l7, PP.trans p7, hlt, w8.keepBut (own := Da :: own) hg8 (fun b o hb e => (hs'.2 b (fun q => hb (by rw [q]; exact List.mem_cons_self))).trans e) rfl rfl (Nat.le_refl _), hg8,
      it.noD hDo (LL.trans l7) (hg8 Da List.mem_cons_self).1 (stay (l5.trans l7) w8.g.f k8) hs'.2, hpl', (h.ws.mono (l3.trans (l5.trans l7)) (p5.trans p7)).append (.cons r7 .nil), ?_, ?_, hcd⟩
    · rw [List.length_append]; exact Nat.succ_le_succ h.dl
    · rw [h.rs, List.append_assoc, ← hre]; rfl
/-- what the loop of a comprehension does, in its own frame -/
theorem compLoop_ok {elt t iter : Expr} {ifs : List Expr} {scope : Scope} {pos : Pos} {T : Ev.T} {I Da : Addr} {fp own : List Addr} {ds rs : List D} {St : Nat → Heap → Prop} {R : Result → Shared → Prop}
    {tst : Vars → Sto → Option (Bool × Sto)} {el : Vars → Sto → Option (D × Sto)} (hh : A.handled = none) (ht : isT nm T t = true) (it : Iter c A t I fp own F0 ρ0 ds St) (hDo : Da ∉ own) (hlen : ds.length ≤ maxLen)
    (hts : ∀ X' vars σ b σ', tst vars σ = some (b, σ') → EvB c nm X' env fa A (forIn ifs true fun c r => if r = true then do let ok ← isTrue c env (eval c env); pure (ForInStep.yield ok) else pure (ForInStep.yield r)) vars σ b σ')
    (hel : ∀ X' vars σ d σ', el vars σ = some (d, σ') → EvV c nm X' env fa A (eval elt env) vars σ d σ')
    (w : W c nm X env fa F0 ρ0 vars σ s) (hg : GuardOk F0 X fa ρ0 σ (Da :: own)) (st : St 0 s.heap) (hD : s.heap.get? Da = some { cls := .type "list", data := .seq ([] : List Value).toArray 0 })
    (e : compD (turnD T tst el) ds vars σ = some (rs, σ'))
    (post : ∀ F' ρ' vars' s' ws n, PLe F0 F' → ρ0 <+: ρ' → W c nm X env fa F' ρ' vars' σ' s' → GuardOk F' X fa ρ' σ' (Da :: own) → s'.heap.get? Da = some { cls := .type "list", data := .seq ws.toArray n } → Rvs c.C F' ρ' ws rs → R (.ok .next) s') :
    codeAny (model c.prog c.w) A (.compLoop (.ListComp elt [⟨t, iter, ifs, 0⟩] scope pos) 0 (.ref I) (.ref Da) env) R s := by
  refine compLoop_any (CmpX c nm X env fa Da own St ds rs (turnD T tst el) σ' F0 ρ0) ?_ (ds.length + 1)
    ⟨0, F0, ρ0, vars, σ, [], 0, [], rs, rfl, PLe.rfl, List.prefix_refl _, Nat.zero_le _, w, hg, st, hD, .nil, Nat.le_refl _, rfl, e⟩
  rintro n s2 ⟨i, F2, ρ2, vars2, σ2, ws, m, done, rest, rfl, l2, p2, h⟩
  rcases Nat.lt_or_ge i ds.length with hlt | hge
  · refine wpAny_mono (CmpI.turn (iter := iter) (Ex := notedBy (model c.prog c.w) A env fun e s' => R (.error e) s') hh ht it hDo hlen hts hel l2 p2 h hlt) (fun r s3 h3 => ?_) fun _ _ h => h
    obtain ⟨v, rfl, h3⟩ := h3
    exact h3
  · obtain rfl := Nat.le_antisymm h.le hge
    have e2 := h.e
    rw [List.drop_length] at e2
    obtain ⟨hr, rfl⟩ := pairI e2
    have hrs := h.rs
    rw [← hr, List.append_nil] at hrs
    subst hrs
    refine it.done s2 _ _ h.st fun s3 hk h1 h2 h3 => ?_
    exact post F2 ρ2 vars2 s3 ws m l2 p2 (h.w.keepBut (own := Da :: own) h.g (fun b o hb e => hk b o (fun q => hb (List.mem_cons_of_mem _ q)) e) h1 h2 h3) h.g (hk Da _ hDo h.hD) h.ws
end
end Ev
end
section
set_option maxRecDepth 100000
set_option autoImplicit false
set_option linter.all false
namespace Ev
open PySem PySem.W PySem.Calls PyProof.Rows PySem.SeqAt

theorem newCompEnv {M : Model} {A : Around} {E : Value → Shared → Prop} {s : Shared} {scope : Scope} {env : Env} {cl : List (Str × Addr)} {Q : Env → Shared → Prop}
    (h : Q (newEnv scope s.heap.objs.size env.globals (cellsFrom (s.heap.objs.size + 1) scope.names cl) env.qual none .none (some env) builtinsNs) { s with heap := pushCells (s.heap.push { cls := .type "dict", data := .dict #[] }) scope.names }) :
    wpAny M A (newFunctionEnv scope env.globals cl [] env.qual none .none (some env)) Q E s := by
  unfold newFunctionEnv
  refine wpAny_bind (wpAny_alloc ?_)
  refine wpAny_bind (wpAny_layCells _ (fun name kind cells => by cases hkc : kind == NameKind.cell <;> simp [hkc]) _ _ _ _ ?_)
  dsimp only
  rw [List.forIn_nil]
  refine wpAny_bind (wpAny_pure (wpAny_pure ?_))
  have hz : ({ s with heap := s.heap.push { cls := .type (if (some env).isSome = true then "dict" else "frame"), data := .dict #[] } } : Shared).heap.objs.size = s.heap.objs.size + 1 := Heap.size_push ..
  rw [hz]
  exact h

theorem iniOf_get {nm : Nm} : ∀ {inner : Nm} {ini : List (Option Nat)}, iniOf nm inner = some ini → ini.length = inner.length ∧
    ∀ (i : Nat) x k, inner[i]? = some (x, k) → ∃ o, ini[i]? = some o ∧ (k = .free → ∃ j k', o = some j ∧ nm[j]? = some (x, k') ∧ (k' = .cell ∨ k' = .free)) ∧ (k ≠ .free → o = none)
  | [], ini, h => by
    simp [iniOf] at h; subst h
    exact ⟨rfl, fun i x k e => by simp at e⟩
  | (y, q) :: r, ini, h => by
    unfold iniOf at h
    rw [List.mapM_cons] at h
    obtain ⟨o, h1, h2⟩ := Option.bind_eq_some_iff.mp h
    obtain ⟨ini', h3, h4⟩ := Option.bind_eq_some_iff.mp h2
    cases h4
    obtain ⟨q1, q2⟩ := iniOf_get (nm := nm) (inner := r) (ini := ini') h3
    refine ⟨by simp [q1], fun i x k e => ?_⟩
    cases i with
    | succ i => exact q2 i x k (by simpa using e)
    | zero =>
      simp at e
      obtain ⟨rfl, rfl⟩ := e
      refine ⟨o, rfl, fun hk => ?_, fun hk => ?_⟩
      · subst hk
        dsimp only at h1
        split at h1
        · rename_i j hj; cases h1; exact ⟨_, _, rfl, nmIdx_get hj, .inl rfl⟩
        · rename_i j hj; cases h1; exact ⟨_, _, rfl, nmIdx_get hj, .inr rfl⟩
        · cases h1
      · cases q <;> first | exact absurd rfl hk | (dsimp only at h1; cases h1; rfl)

theorem lookup_relabel {env : Env} : ∀ {names : List (Str × NameKind)} {x : Str} {k : NameKind}, names.lookup x = some k →
    (names.map fun (n, k) => if (k == NameKind.free && env.scope.kind == .function && env.kindOf n == some .cell) then (n, NameKind.cell) else (n, k)).lookup x = some (if (k == NameKind.free && env.scope.kind == .function && env.kindOf x == some .cell) then .cell else k)
  | [], _, _, h => by simp at h
  | (n, j) :: r, x, k, h => by
    rw [List.lookup_cons] at h
    show List.lookup x ((if (j == NameKind.free && env.scope.kind == .function && env.kindOf n == some .cell) = true then (n, NameKind.cell) else (n, j)) :: _) = _
    cases hx : x == n with
    | true =>
      rw [hx] at h
      cases h
      have : x = n := by simpa using hx
      subst this
      split <;> rw [List.lookup_cons, beq_self_eq_true]
    | false =>
      rw [hx] at h
      have ih := lookup_relabel (env := env) h
      split <;> rw [List.lookup_cons, hx] <;> exact ih

section
variable {c : Cx} {nm : Nm} {X : PMap} {fa : List (Option Addr)} {σ σ' σ1 σ2 σ3 σ4 : Sto} {env : Env} {vars vars' vars1 : Vars} {A : Around} {F F' F0 : FM} {ρ ρ' ρ0 : List (List Addr)} {s s' : Shared} {fl : Flw}

/-- the frame of a comprehension, new -/
theorem compFrame {inner : Scope} {ini : List (Option Nat)} (hsc : scopeOk inner = true) (hini : iniOf nm inner.names = some ini) (hcap : capOk vars ini = true) (w : W c nm X env fa F ρ vars σ s) :
    closureFor inner env = pure (closL env inner.names []) ∧
    (let C := s.heap.objs.size
     let cells := cellsFrom (s.heap.objs.size + 1) inner.names (closL env inner.names [])
     let s4 : Shared := { s with heap := pushCells (s.heap.push { cls := .type "dict", data := .dict #[] }) inner.names }
     let env' : Env := { newEnv inner C env.globals cells env.qual none .none (some env) builtinsNs with scope := relabel inner env }
     Kp s s4 ∧ W c inner.names (hid (ownedFr fa) X s4.heap) env' (frAdrs inner.names C cells) F ρ (capture vars ini) σ s4 ∧ ∀ (i : Nat) a, (frAdrs inner.names C cells)[i]? = some (some a) → s.heap.objs.size ≤ a) := by
  obtain ⟨q1, q2⟩ := iniOf_get hini
  simp only [scopeOk, Bool.and_eq_true, beq_iff_eq, decide_eq_true_eq] at hsc
  obtain ⟨⟨hkind, hnd⟩, hglob⟩ := hsc
  -- a captured name is defined outside
  have capt : ∀ (i : Nat) x, inner.names[i]? = some (x, .free) → ∃ j k' d, ini[i]? = some (some j) ∧ nm[j]? = some (x, k') ∧ (k' = .cell ∨ k' = .free) ∧ vars[j]? = some (some d) := by
    intro i x e
    obtain ⟨o, h1, h2, _⟩ := q2 i x _ e
    obtain ⟨j, k', rfl, h3, h4⟩ := h2 rfl
    have := List.all_eq_true.mp hcap (some j) (List.mem_of_getElem? h1)
    dsimp only at this
    obtain ⟨d, hd⟩ := Option.isSome_iff_exists.mp this
    refine ⟨j, k', d, h1, h3, h4, ?_⟩
    cases q : vars[j]? with
    | none => rw [q] at hd; cases hd
    | some o => rw [q] at hd; simp at hd; rw [hd]
  have clo : ∀ (i : Nat) x, inner.names[i]? = some (x, .free) → ∃ a, env.cells.lookup x = some a := by
    intro i x e
    obtain ⟨j, k', d, h1, h2, h3, h4⟩ := capt i x e
    rcases h3 with rfl | rfl
    · obtain ⟨a, _, e, _⟩ := w.f.cell j x h2; exact ⟨a, e⟩
    · obtain ⟨a, _, _, e, _⟩ := w.f.free j x d h2 h4; exact ⟨a, e⟩
  refine ⟨closureFor_eq fun x hx => ?_, ?_⟩
  · obtain ⟨i, hi, e⟩ := List.mem_iff_getElem.mp hx
    exact clo i x (List.getElem?_eq_some_iff.mpr ⟨hi, e⟩)
  intro C cells s4 env'
  have ok := cellsFrom_ok inner.names (s.heap.push { cls := .type "dict", data := .dict #[] }) (s.heap.objs.size + 1) [] ⟨fun _ _ hm => (nomatch hm), List.Pairwise.nil⟩ (by rw [Heap.size_push]; exact Nat.le_refl _)
  rw [Heap.size_push] at ok
  have hk : ∀ b o, s.heap.get? b = some o → s4.heap.get? b = some o := fun b o e => pushCells_keeps _ _ b o (Heap.get?_push_of_some _ e)
  have kp : Kp s s4 := Kp.mk' (tk := s.toks) hk (Nat.le_refl _)
  have w4 := w.keep kp
  -- own cells of the comprehension
  have own : ∀ {x a}, (∃ i : Nat, inner.names[i]? = some (x, .cell)) → cells.lookup x = some a → (x, a) ∈ cellsFrom (s.heap.objs.size + 1) inner.names [] := by
    intro x a ⟨i, hi⟩ e
    have e' : (cellsFrom (s.heap.objs.size + 1) inner.names [] ++ closL env inner.names []).lookup x = some a := by rw [← cellsFrom_app]; exact e
    rw [lookup_app] at e'
    cases q : (cellsFrom (s.heap.objs.size + 1) inner.names []).lookup x with
    | some b => rw [q] at e'; simp at e'; subst e'; exact mem_of_lookup q
    | none =>
      have := cellsFrom_some inner.names (s.heap.objs.size + 1) [] (x := x) (.inl (lookup_idx hnd hi))
      rw [q] at this; cases this
  have ownL : ∀ {x} {i : Nat}, inner.names[i]? = some (x, .cell) → ∃ a, cells.lookup x = some a := by
    intro x i hi
    have := cellsFrom_some inner.names (s.heap.objs.size + 1) [] (x := x) (.inl (lookup_idx hnd hi))
    obtain ⟨a, ha⟩ := Option.isSome_iff_exists.mp this
    refine ⟨a, ?_⟩
    show (cellsFrom (s.heap.objs.size + 1) inner.names (closL env inner.names [])).lookup x = some a
    rw [cellsFrom_app, lookup_app, ha]; rfl
  have hC : s4.heap.Ns C (fun _ => none) := (Heap.Ns.new s.heap (.type "dict")).keeps (pushCells_keeps _ _)
  have above : ∀ (i : Nat) a, (frAdrs inner.names C cells)[i]? = some (some a) → s.heap.objs.size ≤ a := by
    intro i a e
    cases i with
    | zero => rw [frAdrs_0] at e; cases e; exact Nat.le_refl _
    | succ i =>
      obtain ⟨x, e1, e2⟩ := frAdrs_s e
      exact Nat.le_of_succ_le (ok.empty x a (own ⟨i, e1⟩ e2)).2
  refine ⟨kp, ⟨?_, ?_⟩, above⟩
  · refine G.newFr w4.g.hideFr ?_ ?_
    · intro i a e
      obtain ⟨f1, f2, f3⟩ := w.g.fresh (none_of_ge (above i a e))
      have nfr : ¬ ownedFr fa a := fun ⟨j, hj⟩ => f3 (.fr j) trivial (adrs_fr.mpr hj)
      refine ⟨f1, by rw [hid_neg nfr]; exact f2, fun t ht hm => ?_, ?_⟩
      · cases t with
        | fr j => simp [adrs] at hm
        | loc l => exact f3 (.loc l) ht hm
      · cases i with
        | zero => rw [frAdrs_0] at e; cases e; obtain ⟨o, _, _, e, _⟩ := hC; exact ⟨o, e⟩
        | succ i =>
          obtain ⟨x, e1, e2⟩ := frAdrs_s e
          obtain ⟨o, e, _⟩ := (ok.empty x a (own ⟨i, e1⟩ e2)).1
          exact ⟨o, e⟩
    · intro i j a e e'
      cases i with
      | zero => cases j with
        | zero => rfl
        | succ j =>
          rw [frAdrs_0] at e; cases e
          obtain ⟨x, e1, e2⟩ := frAdrs_s e'
          have := (ok.empty x _ (own ⟨j, e1⟩ e2)).2
          exact absurd this (Nat.not_succ_le_self _)
      | succ i => cases j with
        | zero =>
          rw [frAdrs_0] at e'; cases e'
          obtain ⟨x, e1, e2⟩ := frAdrs_s e
          have := (ok.empty x _ (own ⟨i, e1⟩ e2)).2
          exact absurd this (Nat.not_succ_le_self _)
        | succ j =>
          obtain ⟨x, e1, e2⟩ := frAdrs_s e
          obtain ⟨z, e3, e4⟩ := frAdrs_s e'
          have := name_of_addr ok.apart (own ⟨i, e1⟩ e2) (own ⟨j, e3⟩ e4)
          subst this
          rw [name_idx hnd e1 e3]
  · have capNone : ∀ (i : Nat) x k d, inner.names[i]? = some (x, k) → k ≠ .free → (capture vars ini)[i]? = some (some d) → False := by
      intro i x k d e hne hc
      obtain ⟨o, h1, _, h3⟩ := q2 i x k e
      unfold capture at hc
      rw [List.getElem?_map, h1, h3 hne] at hc
      simp at hc
    refine { kindF := hkind, glob := w.f.glob, bi := w.f.bi, nd := hnd, len := by simp [capture, q1], l0 := frAdrs_0, kinds := fun x k hx => ?_, ns := ⟨_, hC, fun i x d e hc => (capNone i x _ d e (by decide) hc).elim⟩, cell := fun i x e => ?_, free := fun i x d e hc => ?_ }
    · have := lookup_relabel (env := env) hx
      have hko : env'.kindOf x = _ := this
      refine ⟨fun hf => ?_, fun hne => ?_⟩
      · rw [hko]; subst hf
        split
        · exact .inl rfl
        · exact .inr rfl
      · rw [hko]
        have : (k == NameKind.free) = false := by cases k <;> first | rfl | exact absurd rfl hne
        rw [this]; rfl
    · obtain ⟨a, ha⟩ := ownL e
      exact ⟨a, none, ha, frAdrs_at e ha, (ok.empty x a (own ⟨i, e⟩ ha)).1, fun d hd => (capNone i x _ d e (by decide) hd).elim⟩
    · obtain ⟨j, k', d', h1, h2, h3, h4⟩ := capt i x e
      have hd : d' = d := by
        unfold capture at hc
        rw [List.getElem?_map, h1] at hc
        simp [h4] at hc
        exact hc
      subst hd
      obtain ⟨a, ha⟩ := clo i x e
      have hcl : cells.lookup x = some a := by
        show (cellsFrom (s.heap.objs.size + 1) inner.names (closL env inner.names [])).lookup x = some a
        have hno : (cellsFrom (s.heap.objs.size + 1) inner.names []).lookup x = none := by
          refine lookup_none_of fun b hb => ?_
          rcases cellsFrom_mem hb with hm | hm
          · obtain ⟨i', hi', e'⟩ := List.mem_iff_getElem.mp hm
            have e'' : inner.names[i']? = some (x, .cell) := List.getElem?_eq_some_iff.mpr ⟨hi', e'⟩
            have := name_idx hnd e e''
            subst this
            rw [e] at e''; cases e''
          · cases hm
        rw [cellsFrom_app, lookup_app, hno]
        exact closL_hit ha hnd (List.mem_of_getElem? e)
      rcases h3 with rfl | rfl
      · obtain ⟨b, v?, e1, e2, ⟨o, e3, e4⟩, e5⟩ := w4.f.cell j x h2
        rw [ha] at e1; cases e1
        obtain ⟨v, rfl, rv⟩ := e5 d' h4
        exact ⟨a, o, v, hcl, by rw [hid_pos ⟨j + 1, e2⟩]; exact e3, e4, rv⟩
      · obtain ⟨b, o, v, e1, e2, e3, rv⟩ := w4.f.free j x d' h2 h4
        rw [ha] at e1; cases e1
        have nfr : ¬ ownedFr fa a := fun ⟨j', hj⟩ => by
          have := (w4.g.own (.fr j') a trivial (adrs_fr.mpr hj)).2.1
          rw [e2] at this; cases this
        exact ⟨a, o, v, hcl, by rw [hid_neg nfr]; exact e2, e3, rv⟩
end
end Ev
end
section
set_option maxRecDepth 100000
set_option autoImplicit false
set_option linter.all false
namespace Ev
open PySem PySem.W PySem.Calls PyProof.Rows PySem.SeqAt

section
variable {c : Cx} {nm : Nm} {X : PMap} {fa : List (Option Addr)} {σ σ' σ1 σ2 σ3 σ4 : Sto} {env : Env} {vars vars' vars1 : Vars} {A : Around} {F F' F0 : FM} {ρ ρ' ρ0 : List (List Addr)} {s s' : Shared} {fl : Flw}

theorem compCore {use : Option (Value → Sem Unit)} {elt t iter : Expr} {ifs : List Expr} {scope : Scope} {pos pos' : Pos} {T : Ev.T} {ini : List (Option Nat)} {ds rs : List D} {tst : Vars → Sto → Option (Bool × Sto)} {el : Vars → Sto → Option (D × Sto)}
    {Q : Value → Shared → Prop} {Ex : Value → Shared → Prop} (hh : A.handled = none)
    (hsc : scopeOk scope = true) (hini : iniOf nm scope.names = some ini) (ht : isT scope.names T t = true) (hfs : ∀ x, foldedSetIterable iter env x = pure x)
    (hi : EvI c nm X env fa A t iter vars σ ds σ1) (hcap : capOk vars ini = true) (hlen : ds.length ≤ maxLen)
    (hts : ∀ env' fa' X' vars σ b σ', tst vars σ = some (b, σ') → EvB c scope.names X' env' fa' A (forIn ifs true fun c r => if r = true then do let ok ← isTrue c env' (eval c env'); pure (ForInStep.yield ok) else pure (ForInStep.yield r)) vars σ b σ')
    (hel : ∀ env' fa' X' vars σ d σ', el vars σ = some (d, σ') → EvV c scope.names X' env' fa' A (eval elt env') vars σ d σ')
    (e : compD (turnD T tst el) ds (capture vars ini) σ1 = some (rs, σ'))
    (w : W c nm X env fa F ρ vars σ s)
    (fin : ∀ F' ρ' Da C m s', PLe F F' → ρ <+: ρ' → W c nm X env fa F' ρ' vars σ' s' → Rv c.C F' ρ' (.ref Da) (.lst rs) → GuardOk F' X fa ρ' σ' [C] → s'.heap.Ns C m → compPost (model c.prog c.w) A Ex use Q (.ref Da) C (.ok .next) s') :
    wpAny (model c.prog c.w) A (comprehension (.ListComp elt [⟨t, iter, ifs, 0⟩] scope pos) scope env pos' (newList []) false (eval iter env) use) Q Ex s := by
  have hkind : scope.kind = .function := by simp only [scopeOk, Bool.and_eq_true, beq_iff_eq] at hsc; exact hsc.1.1
  have hnd : (scope.names.map (·.1)).Nodup := by simp only [scopeOk, Bool.and_eq_true, decide_eq_true_eq] at hsc; exact hsc.1.2
  have hclos := (compFrame hsc hini hcap w).1
  refine wpAny_comprehension_free (g := ⟨t, iter, ifs, 0⟩) (gs := []) rfl hfs hclos hkind (fun x hx hl => ?_) ?_
  · obtain ⟨i, hi', e'⟩ := List.mem_iff_getElem.mp hx
    have : scope.names[i]? = some (x.1, .local) := by rw [List.getElem?_eq_getElem hi', e', ← hl]
    exact lookup_idx hnd this
  refine hi F ρ s _ Ex w fun F1 ρ1 I fp own St s2 l1 p1 w2 it st hg => ?_
  refine wpAny_newObj_type ?_ (by show ([] : List Value).length ≤ _; exact Nat.zero_le _)
  -- the list that grows
  have hDn := none_at_size s2.heap
  have hDf := w2.g.fresh hDn
  have w3 := w2.keep (.push (o := { cls := .type "list", data := .seq ([] : List Value).toArray }))
  have hDg : ({ s2 with heap := s2.heap.push { cls := .type "list", data := .seq ([] : List Value).toArray } } : Shared).heap.get? s2.heap.objs.size = some { cls := .type "list", data := .seq ([] : List Value).toArray 0 } := Heap.get?_push_size _ rfl
  have hsz3 : ({ s2 with heap := s2.heap.push { cls := .type "list", data := .seq ([] : List Value).toArray } } : Shared).heap.objs.size = s2.heap.objs.size + 1 := Heap.size_push ..
  have st3 : St 0 ({ s2 with heap := s2.heap.push { cls := .type "list", data := .seq ([] : List Value).toArray } } : Shared).heap := it.frame _ _ _ st fun b _ o e => Heap.get?_push_of_some _ e
  have liveLt : ∀ b ∈ own, b < s2.heap.objs.size := fun b hb => by obtain ⟨o, e, _⟩ := it.live _ _ st b hb; exact Heap.lt_size e
  have hDo : s2.heap.objs.size ∉ own := fun h => absurd (liveLt _ h) (Nat.lt_irrefl _)
  generalize hs3 : ({ s2 with heap := s2.heap.push { cls := .type "list", data := .seq ([] : List Value).toArray } } : Shared) = s3 at *
  have hs3' : ({ s2 with heap := s2.heap.push { cls := .type "list", dict := none, data := .seq ([] : List Value).toArray, slots := #[] } } : Shared) = s3 := hs3
  show wpAny _ _ _ _ _ _
  refine newCompEnv ?_
  obtain ⟨kp, wi, above⟩ := (compFrame hsc hini hcap w3).2
  have w4 := w3.keep kp
  generalize hCc : s3.heap.objs.size = C at *
  generalize hcells : cellsFrom (C + 1) scope.names (closL env scope.names []) = cells at *
  generalize hs4 : ({ s3 with heap := pushCells (s3.heap.push { cls := .type "dict", data := .dict #[] }) scope.names } : Shared) = s4 at *
  have hDlt : s2.heap.objs.size < C := by rw [hsz3]; exact Nat.lt_succ_self _
  have hCfr := w3.g.fresh (none_of_ge (h := s3.heap) (a := C) (by rw [hCc]; exact Nat.le_refl _))
  have guard : GuardOk F1 (hid (ownedFr fa) X s4.heap) (frAdrs scope.names C cells) ρ1 σ1 (s2.heap.objs.size :: own) := by
    intro b hb
    have hlt : b < C := by
      rcases List.mem_cons.mp hb with rfl | hb
      · exact hDlt
      · exact Nat.lt_trans (liveLt b hb) hDlt
    obtain ⟨f1, f2, f3⟩ : F1.o b = none ∧ X b = none ∧ ∀ t, liveT σ1 t → b ∉ adrs fa ρ1 t := by
      rcases List.mem_cons.mp hb with rfl | hb
      · exact hDf
      · exact hg b hb
    have nfr : ¬ ownedFr fa b := fun ⟨j, hj⟩ => f3 (.fr j) trivial (adrs_fr.mpr hj)
    refine ⟨f1, by rw [hid_neg nfr]; exact f2, fun t ht hm => ?_⟩
    cases t with
    | loc l => exact f3 (.loc l) ht hm
    | fr i => exact absurd (above i b (adrs_fr.mp hm)) (Nat.not_le.mpr hlt)
  have st4 : St 0 s4.heap := it.frame _ _ _ st3 fun b _ o e => kp.heap b o e
  have loop : codeAny (model c.prog c.w) A (.compLoop (.ListComp elt [⟨t, iter, ifs, 0⟩] scope pos) 0 (.ref I) (.ref s2.heap.objs.size) { newEnv scope C env.globals cells env.qual none .none (some env) builtinsNs with scope := relabel scope env })
      (compPost (model c.prog c.w) A Ex use Q (.ref s2.heap.objs.size) C) s4 := by
    refine compLoop_ok hh ht it hDo hlen (fun X' vars σ b σ' h => hts _ _ X' vars σ b σ' h) (fun X' vars σ d σ' h => hel _ _ X' vars σ d σ' h) wi guard st4 (kp.heap _ _ hDg) e fun F5 ρ5 vars5 s5 ws n l5 p5 w5 hg5 hD5 hws => ?_
    obtain ⟨g6, k6⟩ := w4.g.unhideFr w5.g
    have f6 : FrR c nm F5 X ρ5 env fa vars s5.heap := w4.f.to l5 p5 fun i a o hi' e' => k6 a o ⟨i, hi'⟩ e'
    have w6 : W c nm X env fa F5 ρ5 vars σ' s5 := ⟨g6, f6⟩
    -- freeze the list
    have hD1 := (hg5 s2.heap.objs.size (by simp)).1
    have hD2 := (hg5 s2.heap.objs.size (by simp)).2.2
    have hDno : ∀ t, liveT σ' t → s2.heap.objs.size ∉ adrs fa ρ5 t := fun t ht hm => by
      cases t with
      | loc l => exact hD2 (.loc l) ht hm
      | fr i => exact hDf.2.2 (.fr i) trivial (adrs_fr.mpr (adrs_fr.mp hm))
    have le6 := upd_le (o := { cls := .type "list", data := .seq ws.toArray n }) hD1
    have w7 := w6.intoG (g6.freezeAt hD5 hD1 hDf.2.1 hDno) le6 (List.prefix_refl _)
    obtain ⟨m, hns, _⟩ := w5.f.ns
    have hCown := w5.g.own (.fr 0) C trivial (adrs_fr.mpr frAdrs_0)
    have hgC : GuardOk (updF F5 s2.heap.objs.size { cls := .type "list", data := .seq ws.toArray n }) X fa ρ5 σ' [C] := fun b hb => by
      have hb' : b = C := by simpa using hb
      rw [hb']
      refine ⟨?_, hCfr.2.1, fun t ht hm => ?_⟩
      · show upd F5.o _ _ C = none
        rw [upd_ne (Nat.ne_of_gt hDlt)]; exact hCown.1
      · cases t with
        | fr i => exact hCfr.2.2 (.fr i) trivial (adrs_fr.mpr (adrs_fr.mp hm))
        | loc l =>
          have := w5.g.apart (.loc l) (.fr 0) C ht trivial hm (adrs_fr.mpr frAdrs_0)
          cases this
    exact fin _ ρ5 _ C m s5 ((l1.trans l5).trans le6) (p1.trans p5) w7 (.lst upd_self rfl rfl (hws.mono le6 (List.prefix_refl _))) hgC hns
  exact codeAny_compStart_list loop (it.self 0 s4 _ _ st4 loop)

theorem EvV.comp {elt t iter : Expr} {ifs : List Expr} {scope : Scope} {pos : Pos} {T : Ev.T} {ini : List (Option Nat)} {ds rs : List D} {tst : Vars → Sto → Option (Bool × Sto)} {el : Vars → Sto → Option (D × Sto)} (hh : A.handled = none)
    (hsc : scopeOk scope = true) (hini : iniOf nm scope.names = some ini) (ht : isT scope.names T t = true) (hfs : ∀ x, foldedSetIterable iter env x = pure x)
    (hi : EvI c nm X env fa A t iter vars σ ds σ1) (hcap : capOk vars ini = true) (hlen : ds.length ≤ maxLen)
    (hts : ∀ env' fa' X' vars σ b σ', tst vars σ = some (b, σ') → EvB c scope.names X' env' fa' A (forIn ifs true fun c r => if r = true then do let ok ← isTrue c env' (eval c env'); pure (ForInStep.yield ok) else pure (ForInStep.yield r)) vars σ b σ')
    (hel : ∀ env' fa' X' vars σ d σ', el vars σ = some (d, σ') → EvV c scope.names X' env' fa' A (eval elt env') vars σ d σ')
    (e : compD (turnD T tst el) ds (capture vars ini) σ1 = some (rs, σ')) :
    EvV c nm X env fa A (eval (.ListComp elt [⟨t, iter, ifs, 0⟩] scope pos) env) vars σ (.lst rs) σ' := by
  intro F ρ s Q Ex w post
  rw [eval_ListComp]
  refine compCore hh hsc hini ht hfs hi hcap hlen hts hel e w fun F' ρ' Da C m s' le hp w' r hg hn => ?_
  exact ⟨m, hn, fun h' hs => post F' ρ' _ _ le hp (w'.keepBut (own := [C]) hg (fun b o hb e => (hs.2 b (by simpa using hb)).trans e) rfl rfl (Nat.le_refl _)) r⟩

theorem EvU.comp {elt t iter : Expr} {ifs : List Expr} {scope : Scope} {pos : Pos} {T : Ev.T} {ini : List (Option Nat)} {ds rs : List D} {tst : Vars → Sto → Option (Bool × Sto)} {el : Vars → Sto → Option (D × Sto)} (hh : A.handled = none)
    (hsc : scopeOk scope = true) (hini : iniOf nm scope.names = some ini) (ht : isT scope.names T t = true) (hfs : ∀ x, foldedSetIterable iter env x = pure x)
    (hi : EvI c nm X env fa A t iter vars σ ds σ1) (hcap : capOk vars ini = true) (hlen : ds.length ≤ maxLen)
    (hts : ∀ env' fa' X' vars σ b σ', tst vars σ = some (b, σ') → EvB c scope.names X' env' fa' A (forIn ifs true fun c r => if r = true then do let ok ← isTrue c env' (eval c env'); pure (ForInStep.yield ok) else pure (ForInStep.yield r)) vars σ b σ')
    (hel : ∀ env' fa' X' vars σ d σ', el vars σ = some (d, σ') → EvV c scope.names X' env' fa' A (eval elt env') vars σ d σ')
    (e : compD (turnD T tst el) ds (capture vars ini) σ1 = some (rs, σ')) :
    EvU c nm X env fa A (.ListComp elt [⟨t, iter, ifs, 0⟩] scope pos) vars σ (.lst rs) σ' := by
  intro F ρ s u vars' Q Ex w hu post
  show wpAny _ _ (comprehension (.ListComp elt [⟨t, iter, ifs, 0⟩] scope pos) scope env (firstIterPos [⟨t, iter, ifs, 0⟩] pos) (newList []) false (eval iter env) (some u) >>= fun _ => pure ()) _ _ _
  refine wpAny_bind (compCore (Q := fun _ s' => wpAny (model c.prog c.w) A (pure ()) Q Ex s') hh hsc hini ht hfs hi hcap hlen hts hel e w fun F' ρ' Da C m s' le hp w' r hg hn => ?_)
  have hX : ∀ b ∈ [C], X b = none := fun b hb => (hg b hb).2.1
  obtain ⟨oC, es, ep, e1, e2, e3⟩ := hn
  have hl : ∀ b ∈ [C], ∃ o, s'.heap.get? b = some o ∧ ∀ w, o.data ≠ .cell w := fun b hb => by
    have hb' : b = C := by simpa using hb
    rw [hb']
    exact ⟨oC, e1, fun w q => by rw [e2] at q; cases q⟩
  refine hu (hid (· ∈ [C]) X s'.heap) F' ρ' σ' s' (.ref Da) _ _ (w'.guardL hg) r fun s2 w2 => ?_
  obtain ⟨w3, k3, hg3⟩ := w2.unguardL hX hl
  exact ⟨m, ⟨oC, es, ep, k3 C (by simp) _ e1, e2, e3⟩, fun h' hs => wpAny_pure (post F' ρ' _ le hp (w3.keepBut (own := [C]) hg3 (fun b o hb e => (hs.2 b (by simpa using hb)).trans e) rfl rfl (Nat.le_refl _)))⟩
end
end Ev
end
section
set_option maxRecDepth 100000
set_option autoImplicit false
set_option linter.all false
namespace Ev
open PySem PySem.W PySem.Calls PyProof.Rows PySem.SeqAt

/-! the greatest, the least -/
noncomputable def numCmp (op : CmpOp) (x y : D) : Bool := match op with
  | .Gt => (cmpD .Gt x y).getD false
  | _ => (numCmp2 (fun a b => decide (a < b)) (fun a b => Float64.cmp a b == some Ordering.lt) x y).getD false
noncomputable def IsGL (op : CmpOp) : Prop := op = .Gt ∨ op = .Lt
/-- two ints | two floats -/
noncomputable def Twin (x y : D) : Prop := (∃ i j, x = .int i ∧ y = .int j) ∨ ∃ a d, x = .flt a ∧ y = .flt d
theorem cmpD_num {op : CmpOp} {x y : D} {b : Bool} (ho : IsGL op) (hx : num x = true) (e : cmpD op x y = some b) : Twin x y ∧ numCmp op x y = b := by
  rcases ho with rfl | rfl
  · refine ⟨?_, by show (cmpD .Gt x y).getD false = b; rw [e]; rfl⟩
    cases x with
    | int i => cases y with
      | int j => exact .inl ⟨i, j, rfl, rfl⟩
      | _ => (first | exact noneE e | exact falseE e | exact nomatch e)
    | flt i => cases y with
      | flt j => exact .inr ⟨i, j, rfl, rfl⟩
      | _ => (first | exact noneE e | exact falseE e | exact nomatch e)
    | _ => (first | exact noneE hx | exact falseE hx | exact nomatch hx)
  · have e : ltD x y = some b := e
    cases x with
    | int i =>
      rw [ltD] at e
      obtain ⟨j, rfl, h⟩ := ltInt_inv e
      exact ⟨.inl ⟨i, j, rfl, rfl⟩, h⟩
    | flt i =>
      rw [ltD] at e
      obtain ⟨j, rfl, h⟩ := ltFlt_inv e
      exact ⟨.inr ⟨i, j, rfl, rfl⟩, h⟩
    | _ => (first | exact noneE hx | exact falseE hx | exact nomatch hx)

noncomputable def IntD (x : D) : Prop := ∃ i, x = D.int i
noncomputable def FltD (x : D) : Prop := ∃ i, x = D.flt i
noncomputable def allKind (xs : List D) : Prop := (∀ x ∈ xs, IntD x) ∨ ∀ x ∈ xs, FltD x
theorem num_kind {b : D} (h : num b = true) : IntD b ∨ FltD b := by
  cases b with
  | int i => exact .inl ⟨i, rfl⟩
  | flt i => exact .inr ⟨i, rfl⟩
  | _ => (first | exact noneE h | exact falseE h | exact nomatch h)
theorem IntD.noFlt {x : D} (a : IntD x) (b : FltD x) : False := by obtain ⟨i, rfl⟩ := a; obtain ⟨j, e⟩ := b; cases e
theorem allKind.one {b : D} (h : num b = true) : allKind [b] := (num_kind h).elim (fun q => .inl fun x hx => by rw [List.mem_singleton.mp hx]; exact q) fun q => .inr fun x hx => by rw [List.mem_singleton.mp hx]; exact q
/-- beside one of them, another of its kind -/
theorem allKind.more {x y : D} {l : List D} (t : Twin x y ∨ Twin y x) (h : allKind (x :: l)) : allKind (x :: y :: l) := by
  have both : (IntD x ∧ IntD y) ∨ (FltD x ∧ FltD y) := by
    rcases t with (⟨i, j, rfl, rfl⟩ | ⟨i, j, rfl, rfl⟩) | (⟨i, j, rfl, rfl⟩ | ⟨i, j, rfl, rfl⟩)
    · exact .inl ⟨⟨_, rfl⟩, ⟨_, rfl⟩⟩
    · exact .inr ⟨⟨_, rfl⟩, ⟨_, rfl⟩⟩
    · exact .inl ⟨⟨_, rfl⟩, ⟨_, rfl⟩⟩
    · exact .inr ⟨⟨_, rfl⟩, ⟨_, rfl⟩⟩
  have out : ∀ {P : D → Prop}, P y → (∀ z ∈ x :: l, P z) → ∀ z ∈ x :: y :: l, P z := fun py h z hz => by
    rcases List.mem_cons.mp hz with rfl | hz
    · exact h _ List.mem_cons_self
    · rcases List.mem_cons.mp hz with rfl | hz
      · exact py
      · exact h z (List.mem_cons_of_mem _ hz)
  rcases h with h | h
  · rcases both with ⟨_, b⟩ | ⟨a, _⟩
    · exact .inl (out b h)
    · exact ((h x List.mem_cons_self).noFlt a).elim
  · rcases both with ⟨a, _⟩ | ⟨_, b⟩
    · exact (a.noFlt (h x List.mem_cons_self)).elim
    · exact .inr (out b h)
theorem allKind.swap {x y : D} {l : List D} (h : allKind (x :: y :: l)) : allKind (y :: x :: l) := by
  have out : ∀ {P : D → Prop}, (∀ z ∈ x :: y :: l, P z) → ∀ z ∈ y :: x :: l, P z := fun h z hz => by
    rcases List.mem_cons.mp hz with rfl | hz
    · exact h _ (List.mem_cons_of_mem _ List.mem_cons_self)
    · rcases List.mem_cons.mp hz with rfl | hz
      · exact h _ List.mem_cons_self
      · exact h z (List.mem_cons_of_mem _ (List.mem_cons_of_mem _ hz))
  exact h.elim (fun h => .inl (out h)) fun h => .inr (out h)
theorem pick_inv {gt : D → D → Option Bool} {x b d : D} {xs : List D} (e : pickBest gt b (x :: xs) = some d) : ∃ r, gt x b = some r ∧ pickBest gt (if r then x else b) xs = some d := by
  have e' : (match gt x b with | some true => pickBest gt x xs | some false => pickBest gt b xs | none => none) = some d := e
  match hg : gt x b, e' with
  | some true, e' => exact ⟨true, rfl, e'⟩
  | some false, e' => exact ⟨false, rfl, e'⟩
theorem pick_kind {op : CmpOp} (ho : IsGL op) : ∀ {xs : List D} {b d : D}, num b = true → xs.all num = true → pickBest (cmpD op) b xs = some d → allKind (b :: xs)
  | [], b, d, hb, _, _ => .one hb
  | x :: xs, b, d, hb, ha, e => by
    obtain ⟨hx, ha⟩ := and2 ha
    obtain ⟨r, hc, e⟩ := pick_inv e
    have hk := (cmpD_num ho hx hc).1
    cases r with
    | true => exact ((pick_kind ho hx ha e).more (.inl hk)).swap
    | false => exact (pick_kind ho hb ha e).more (.inr hk)

noncomputable def btOf (op : CmpOp) (l : List D) (i j : Nat) : Bool := match l[i]?, l[j]? with
  | some x, some y => numCmp op x y
  | _, _ => false
theorem btOf_eq {op : CmpOp} {l : List D} {i j : Nat} {x y : D} (h1 : l[i]? = some x) (h2 : l[j]? = some y) : btOf op l i j = numCmp op x y := by unfold btOf; rw [h1, h2]
theorem pick_arg {op : CmpOp} (ho : IsGL op) {l : List D} (hn : l.all num = true) : ∀ (suf : List D) (k : Nat) (b d : D), l.drop (k + 1) = suf → l[argBest (btOf op l) k]? = some b → pickBest (cmpD op) b suf = some d → l[argBest (btOf op l) (k + suf.length)]? = some d
  | [], k, b, d, _, hb, e => by cases e; exact hb
  | x :: xs, k, b, d, hs, hb, e => by
    have hx : l[k + 1]? = some x := by rw [← List.getElem?_drop (j := 0), hs]; rfl
    have hxs : l.drop (k + 1 + 1) = xs := by rw [← List.drop_drop, hs]; rfl
    obtain ⟨r, hc, e⟩ := pick_inv e
    have hbt : btOf op l (k + 1) (argBest (btOf op l) k) = r := (btOf_eq hx hb).trans (cmpD_num ho (List.all_eq_true.mp hn x (List.mem_of_getElem? hx)) hc).2
    rw [show k + (x :: xs).length = k + 1 + xs.length from (Nat.succ_add k xs.length).symm]
    refine pick_arg ho hn xs (k + 1) _ d hxs ?_ e
    show l[if btOf op l (k + 1) (argBest (btOf op l) k) = true then k + 1 else argBest (btOf op l) k]? = _
    rw [hbt]
    cases r with
    | true => exact hx
    | false => exact hb

section
variable {c : Cx} {nm : Nm} {X : PMap} {fa : List (Option Addr)} {σ σ' σ1 σ2 σ3 σ4 : Sto} {env : Env} {vars vars' vars1 : Vars} {A : Around} {F F' F0 : FM} {ρ ρ' ρ0 : List (List Addr)} {s s' : Shared} {fl : Flw}

theorem Rvs.at {vs : List Value} {l : List D} (hr : Rvs c.C F ρ vs l) {i : Nat} {v : Value} (h : vs.toArray[i]? = some v) : ∃ x, l[i]? = some x ∧ Rv c.C F ρ v x := by
  rw [List.getElem?_toArray] at h
  have hlt : i < l.length := by rw [← hr.length]; exact (List.getElem?_eq_some_iff.mp h).1
  obtain ⟨u, q1, q2⟩ := hr.get (List.getElem?_eq_getElem hlt)
  rw [h] at q1; cases q1
  exact ⟨_, List.getElem?_eq_getElem hlt, q2⟩
theorem cmpOf_num {op : CmpOp} (ho : IsGL op) {vs : List Value} {l : List D} (hr : Rvs c.C F ρ vs l) (hk : allKind l) : CmpOf c.prog c.w A op (fun i v => vs.toArray[i]? = some v) (btOf op l) := by
  intro i j vi vj s Q E hi hj hQ
  obtain ⟨x, e1, r1⟩ := hr.at hi
  obtain ⟨y, e2, r2⟩ := hr.at hj
  rw [btOf_eq e1 e2] at hQ
  rcases hk with hk | hk
  · obtain ⟨a, rfl⟩ := hk x (List.mem_of_getElem? e1)
    obtain ⟨b, rfl⟩ := hk y (List.mem_of_getElem? e2)
    obtain ⟨t, rfl⟩ := r1.inv
    obtain ⟨u, rfl⟩ := r2.inv
    rcases ho with rfl | rfl
    · exact gt_int hQ
    · exact lt_int hQ
  · obtain ⟨a, rfl⟩ := hk x (List.mem_of_getElem? e1)
    obtain ⟨b, rfl⟩ := hk y (List.mem_of_getElem? e2)
    obtain ⟨t, rfl, _⟩ := r1.inv
    obtain ⟨u, rfl, _⟩ := r2.inv
    rcases ho with rfl | rfl
    · exact AutoFloatOps.gt_0 hQ
    · exact AutoFloatOps.lt_0 hQ

theorem bestOf_inv {op : CmpOp} {l : List D} {d : D} (ho : IsGL op) (e : bestOf op l = some d) : 0 < l.length ∧ allKind l ∧ l[argBest (btOf op l) (l.length - 1)]? = some d := by
  cases l with
  | nil => (first | exact noneE e | exact falseE e | exact nomatch e)
  | cons x r =>
    obtain ⟨ha, e⟩ := iteT (show (if (x :: r).all num = true then pickBest (cmpD op) x r else none) = some d from e)
    refine ⟨Nat.succ_pos _, pick_kind ho (and2 ha).1 (and2 ha).2 e, ?_⟩
    have := pick_arg ho (l := x :: r) ha r 0 x d rfl rfl e
    rw [Nat.zero_add] at this
    exact this
end
end Ev
end
section
set_option maxRecDepth 100000
set_option autoImplicit false
set_option linter.all false
namespace Ev
open PySem PySem.W PySem.Calls PyProof.Rows PySem.SeqAt

inductive Rds (c : Cx) (F : FM) (ρ : List (List Addr)) (h : Heap) : List Value → List D → Prop
  | nil : Rds c F ρ h [] []
  | cons {v : Value} {x : D} {vs : List Value} {xs : List D} (r : Rd c F ρ h v x) (rs : Rds c F ρ h vs xs) : Rds c F ρ h (v :: vs) (x :: xs)

section
variable {c : Cx} {nm : Nm} {X : PMap} {fa : List (Option Addr)} {σ σ' σ1 σ2 σ3 σ4 : Sto} {env : Env} {vars vars' vars1 : Vars} {A : Around} {F F' F0 : FM} {ρ ρ' ρ0 : List (List Addr)} {s s' : Shared} {fl : Flw}

theorem G.rds (g : G c F X fa ρ σ s) : ∀ {ds : List D} {vs : List Value} {xs : List D}, Rvs c.C F ρ vs ds → ress σ ds = some xs → Rds c F ρ s.heap vs xs
  | [], vs, xs, h, e => by
    obtain rfl := (h.inv : vs = [])
    cases e; exact .nil
  | d :: ds, vs, xs, h, e => by
    obtain ⟨v, vs, rfl, r, rs⟩ := h.inv
    exact bindE (show ((res σ d).bind fun x => (ress σ ds).map (x :: ·)) = some xs from e) fun x e1 e2 => mapE e2 fun ys e3 e4 => by subst e4; exact .cons (g.rd r e1) (g.rds rs e3)
theorem num_lst {x : D} (hn : num x = true) : lstD x = none := by cases x <;> first | rfl | (first | exact noneE hn | exact falseE hn | exact nomatch hn)
noncomputable def RdsS (c : Cx) (F : FM) (ρ : List (List Addr)) (h : Heap) (vs : List Value) : List D → Prop
  | [] => vs = []
  | x :: xs => ∃ u us, vs = u :: us ∧ Rd c F ρ h u x ∧ Rds c F ρ h us xs
theorem Rds.inv {h : Heap} {vs : List Value} {xs : List D} (r : Rds c F ρ h vs xs) : RdsS c F ρ h vs xs := by
  cases r with
  | nil => exact rfl
  | cons r rs => exact ⟨_, _, rfl, r, rs⟩
theorem Rds.nums {h : Heap} {vs : List Value} {xs : List D} (r : Rds c F ρ h vs xs) (hn : xs.all num = true) : Rvs c.C F ρ vs xs := by
  induction r with
  | nil => exact .nil
  | cons r rs ih => exact .cons (r.rv (num_lst (and2 hn).1)) (ih (and2 hn).2)
theorem bestOf_all {op : CmpOp} {l : List D} {d : D} (e : bestOf op l = some d) : l.all num = true := by
  cases l with
  | nil => (first | exact noneE e | exact falseE e | exact nomatch e)
  | cons x r => exact (iteT (show (if (x :: r).all num = true then pickBest (cmpD op) x r else none) = some d from e)).1

/-- what max and min hand back -/
theorem bestVal {op : CmpOp} {l : List D} {d : D} {vs : List Value} (ho : IsGL op) (hs : Rvs c.C F ρ vs l) (e : bestOf op l = some d) {v : Value} (hv : vs.toArray[argBest (btOf op l) (vs.toArray.size - 1)]? = some v) : Rv c.C F ρ v d := by
  have hv : vs.toArray[argBest (btOf op l) (vs.length - 1)]? = some v := hv
  rw [hs.length] at hv
  obtain ⟨x, h1, h2⟩ := hs.at hv
  rw [(bestOf_inv ho e).2.2] at h1
  cases h1; exact h2
theorem bestLen {op : CmpOp} {l : List D} {d : D} {vs : List Value} (ho : IsGL op) (hs : Rvs c.C F ρ vs l) (e : bestOf op l = some d) : 0 < vs.toArray.size := by
  show 0 < vs.length
  rw [hs.length]; exact (bestOf_inv ho e).1
theorem mem2_lt {a b n : Nat} (ha : a < n) (hb : b < n) : ∀ x ∈ [a, b], x < n := fun x hx => by
  rcases List.mem_cons.mp hx with rfl | hx
  · exact ha
  · rw [List.mem_singleton.mp hx]; exact hb
theorem not_mem1 {a b : Nat} (h : a < b) : a ∉ [b] := fun q => Nat.ne_of_lt h (List.mem_singleton.mp q)

theorem bestList {op : CmpOp} {l : List D} {d : D} {v : Value} {Q : Value → Shared → Prop} {Ex : Value → Shared → Prop} (hh : A.handled = none) (ho : IsGL op) (w : W c nm X env fa F ρ vars σ s) (r : Rd c F ρ s.heap v (.lst l)) (e : bestOf op l = some d)
    (h : ∀ v s', Kp s s' → Res c F ρ s s' v d → Q v s') :
    wpAny (model c.prog c.w) A.in1 (pyIter v) (fun it s₂ => ∃ I fp wr n P St bt, it = .ref I ∧ Walks c.prog c.w A.in1 I fp wr n P St ∧ St 0 s₂.heap ∧ (∀ b ∈ fp, b < s₂.heap.objs.size) ∧ 0 < n ∧ CmpOf c.prog c.w A.in1 op P bt ∧
      ∀ v h' tk, P (argBest bt (n - 1)) v → (∀ b o, b ∉ wr → s₂.heap.get? b = some o → h'.get? b = some o) → s.toks ≤ tk → Q v { s₂ with heap := h', toks := tk }) Ex s := by
  obtain ⟨a, vs, rfl, hl, hs⟩ := w.g.list r
  have hlt : a < s.heap.objs.size := by obtain ⟨o, e, _⟩ := hl; exact Heap.lt_size e
  refine wpAny_pyIter_list hl ?_
  have h2 := (bestOf_inv ho e).2.1
  refine ⟨s.heap.objs.size, _, _, vs.toArray.size, _, _, btOf op l, rfl, Walks.list (A := A.in1) hh s.heap.objs.size a (Nat.ne_of_lt hlt) vs.toArray, ⟨⟨_, Heap.get?_push_size _ rfl, rfl, rfl⟩, hl.push _⟩, fun b hb => ?_, bestLen ho hs e, cmpOf_num (A := A.in1) ho hs h2, fun v h' tk hv hk ht => ?_⟩
  · rw [Heap.size_push]
    exact mem2_lt (Nat.lt_succ_self _) (Nat.lt_succ_of_lt hlt) b hb
  · exact h v _ (Kp.mk2 (fun b o e => hk b o (not_mem1 (Heap.lt_size e)) (Heap.get?_push_of_some _ e)) ht) (.old (bestVal ho hs e hv))

theorem bestTup {op : CmpOp} {l : List D} {d : D} {vs : List Value} {Q : Value → Shared → Prop} {Ex : Value → Shared → Prop} (hh : A.handled = none) (ho : IsGL op) (hs : Rvs c.C F ρ vs l) (e : bestOf op l = some d)
    (h : ∀ v s', Kp s s' → Res c F ρ s s' v d → Q v s') :
    wpAny (model c.prog c.w) A.in1 (pyIter (.ref s.heap.objs.size)) (fun it s₂ => ∃ I fp wr n P St bt, it = .ref I ∧ Walks c.prog c.w A.in1 I fp wr n P St ∧ St 0 s₂.heap ∧ (∀ b ∈ fp, b < s₂.heap.objs.size) ∧ 0 < n ∧ CmpOf c.prog c.w A.in1 op P bt ∧
      ∀ v h' tk, P (argBest bt (n - 1)) v → (∀ b o, b ∉ wr → s₂.heap.get? b = some o → h'.get? b = some o) → s.toks ≤ tk → Q v { s₂ with heap := h', toks := tk }) Ex { s with heap := s.heap.push { cls := .type "tuple", data := .seq vs.toArray } } := by
  have hl : (s.heap.push { cls := .type "tuple", data := .seq vs.toArray }).IsTuple s.heap.objs.size vs.toArray := ⟨_, Heap.get?_push_size _ rfl, rfl, _, rfl⟩
  refine wpAny_pyIter_tuple (s := { s with heap := s.heap.push { cls := .type "tuple", data := .seq vs.toArray } }) hl ?_
  have h2 := (bestOf_inv ho e).2.1
  have hz : ({ s with heap := s.heap.push { cls := .type "tuple", data := .seq vs.toArray } } : Shared).heap.objs.size = s.heap.objs.size + 1 := Heap.size_push ..
  have hI : ((s.heap.push { cls := .type "tuple", data := .seq vs.toArray }).push { cls := .type "tuple_iterator", data := .fields #[.ref s.heap.objs.size, .int 0 0] }).IsTupleIter (s.heap.objs.size + 1) s.heap.objs.size 0 := by
    have := Heap.get?_push_size (s.heap.push { cls := .type "tuple", data := .seq vs.toArray }) (o := { cls := .type "tuple_iterator", data := .fields #[.ref s.heap.objs.size, .int 0 0] }) rfl
    rw [Heap.size_push] at this
    exact ⟨_, this, rfl, rfl⟩
  rw [hz]
  refine ⟨s.heap.objs.size + 1, _, _, vs.toArray.size, _, _, btOf op l, rfl, Walks.tuple (A := A.in1) hh (s.heap.objs.size + 1) s.heap.objs.size (Nat.ne_of_lt (Nat.lt_succ_self _)) vs.toArray, ⟨hI, hl.push _⟩, fun b hb => ?_, bestLen ho hs e, cmpOf_num (A := A.in1) ho hs h2, fun v h' tk hv hk ht => ?_⟩
  · rw [Heap.size_push, Heap.size_push]
    exact mem2_lt (Nat.lt_succ_self _) (Nat.lt_succ_of_lt (Nat.lt_succ_self _)) b hb
  · exact h v _ (Kp.mk2 (fun b o e => hk b o (not_mem1 (Nat.lt_succ_of_lt (Heap.lt_size e))) (Heap.get?_push_of_some _ (Heap.get?_push_of_some _ e))) ht) (.old (bestVal ho hs e hv))

theorem intsOf_nums : ∀ {xs : List D} {vs : List Value} {is : List Int}, Rvs c.C F ρ vs xs → intsOf xs = some is → AllInts vs.toArray ∧ (numsOf vs).sum = sumInts is
  | [], vs, is, h, e => by
    obtain rfl := (h.inv : vs = [])
    cases e; exact ⟨fun v hv => (nomatch hv : False).elim, rfl⟩
  | .int i :: xs, vs, is, h, e => by
    obtain ⟨v, vs, rfl, r, rs⟩ := h.inv
    obtain ⟨t, rfl⟩ := r.inv
    refine mapE (show (intsOf xs).map (i :: ·) = some is from e) fun r e1 e2 => ?_
    subst e2
    obtain ⟨q1, q2⟩ := intsOf_nums rs e1
    refine ⟨fun v hv => ?_, ?_⟩
    · rcases List.mem_cons.mp (Array.mem_toArray.mp hv) with rfl | hv
      · exact ⟨_, _, rfl⟩
      · exact q1 v (List.mem_toArray.mpr hv)
    · show (_ :: numsOf _).sum = _
      rw [List.sum_cons, q2]; rfl
end
end Ev
end
section
set_option maxRecDepth 100000
set_option autoImplicit false
set_option linter.all false
namespace Ev
open PySem PySem.W PySem.Calls PyProof.Rows PySem.SeqAt

/-- sorted(): to be shown where a program needs it -/
noncomputable def SortOk (c : Cx) : Prop := ∀ (nm : Nm) (X : PMap) (env : Env) fa F ρ vars σ s (A : Around) (v : Value) xs d (Q : Value → Shared → Prop) Ex, A.handled = none → Good 0 A → W c nm X env fa F ρ vars σ s → Rd c F ρ s.heap v (.lst xs) → biD .sorted [.lst xs] = some d →
  (∀ v s', Kp s s' → Res c F ρ s s' v d → Q v s') → wpAny (model c.prog c.w) A (call (.builtin "sorted") [v]) Q Ex s

section
variable {c : Cx} {nm : Nm} {X : PMap} {fa : List (Option Addr)} {σ σ' σ1 σ2 σ3 σ4 : Sto} {env : Env} {vars vars' vars1 : Vars} {A : Around} {F F' F0 : FM} {ρ ρ' ρ0 : List (List Addr)} {s s' : Shared} {fl : Flw}

theorem Kp.tok2 : Kp s { s with toks := s.toks + 1 + 1 } := Kp.toks' (by omega)

theorem one_inv {f : D → Option D} {ds : List D} {d : D} (e : one f ds = some d) : ∃ x, ds = [x] ∧ f x = some d := by
  match ds, e with
  | [x], e => exact ⟨x, rfl, e⟩
  | [], e => (first | exact noneE e | exact falseE e | exact nomatch e)
  | _ :: _ :: _, e => (first | exact noneE e | exact falseE e | exact nomatch e)
theorem Rds.one {h : Heap} {vs : List Value} {x : D} (r : Rds c F ρ h vs [x]) : ∃ v, vs = [v] ∧ Rd c F ρ h v x := by
  obtain ⟨v, us, rfl, r1, rs⟩ := r.inv
  obtain rfl := (rs.inv : us = [])
  exact ⟨v, rfl, r1⟩
/-- what a call of a built-in does -/
noncomputable def BiR (c : Cx) (A : Around) (F : FM) (ρ : List (List Addr)) (s : Shared) (b : Bi) (vs : List Value) (d : D) : Prop :=
  ∀ Q Ex, (∀ v s', Kp s s' → Res c F ρ s s' v d → Q v s') → wpAny (model c.prog c.w) A (call (biVal b) vs) Q Ex s
theorem fit_of {n : Nat} (hn : n ≤ maxLen) : (n : Int) < 2 ^ 63 := by unfold maxLen at hn; omega
theorem bi_len {x d : D} {v : Value} (w : W c nm X env fa F ρ vars σ s) (r : Rd c F ρ s.heap v x) (e : lenD x = some d) : BiR c A F ρ s .len [v] d := by
  intro Q Ex h
  cases x with
  | str a =>
    obtain ⟨hn, e⟩ := iteT e
    cases e
    obtain ⟨t, rfl⟩ := r.str
    refine len_str (x := ⟨a.toArray⟩) (by rw [str_length]; exact Int.not_le.mpr (fit_of hn)) ?_
    rw [str_length]
    exact h _ _ .tok2 (.old (.int _ _))
  | lst a =>
    obtain ⟨hn, e⟩ := iteT e
    cases e
    obtain ⟨l, us, rfl, hl, hs⟩ := w.g.list r
    have hz : (List.toArray us).size = a.length := hs.length
    refine call_len_list hl (by rw [hz]; exact fit_of hn) ?_
    rw [hz]
    exact h _ _ .tok2 (.old (.int _ _))
  | tup a =>
    obtain ⟨hn, e⟩ := iteT e
    cases e
    obtain ⟨l, us, rfl, hl, hs⟩ := w.g.tuple r
    have hz : (List.toArray us).size = a.length := hs.length
    have ht : IsTup s.heap l (List.toArray us) := hl
    refine PyProof.Rows.len_tuple ht (by rw [hz]; exact fit_of hn) ?_
    rw [hz]
    exact h _ _ .tok2 (.old (.int _ _))
  | _ => (first | exact noneE e | exact falseE e | exact nomatch e)
theorem two_inv {x y : D} {vs : List Value} (h : Rvs c.C F ρ vs [x, y]) : ∃ v1 v2, vs = [v1, v2] := by
  obtain ⟨v1, us, rfl, _, h⟩ := h.inv
  obtain ⟨v2, us, rfl, _, h⟩ := h.inv
  obtain rfl := (h.inv : us = [])
  exact ⟨_, _, rfl⟩
theorem three_inv {x y z : D} {vs : List Value} (h : Rvs c.C F ρ vs [x, y, z]) : ∃ v1 v2 v3, vs = [v1, v2, v3] := by
  obtain ⟨v1, us, rfl, _, h⟩ := h.inv
  obtain ⟨v2, us, rfl, _, h⟩ := h.inv
  obtain ⟨v3, us, rfl, _, h⟩ := h.inv
  obtain rfl := (h.inv : us = [])
  exact ⟨_, _, _, rfl⟩
theorem bestD_cases {op : CmpOp} {ds : List D} {d : D} (e : bestD op ds = some d) : (∃ l, ds = [.lst l] ∧ bestOf op l = some d) ∨ (∃ x y, ds = [x, y] ∧ bestOf op [x, y] = some d) ∨ ∃ x y z, ds = [x, y, z] ∧ bestOf op [x, y, z] = some d := by
  match ds, e with
  | [x], e => exact bindE (show (lstD x).bind (bestOf op) = some d from e) fun l h1 h2 => .inl ⟨l, by rw [lstD_inv h1], h2⟩
  | [x, y], e => exact .inr (.inl ⟨x, y, rfl, e⟩)
  | [x, y, z], e => exact .inr (.inr ⟨x, y, z, rfl, e⟩)
  | [], e => (first | exact noneE e | exact falseE e | exact nomatch e)
  | _ :: _ :: _ :: _ :: _, e => (first | exact noneE e | exact falseE e | exact nomatch e)
theorem bi_max {ds : List D} {d : D} {vs : List Value} (hh : A.handled = none) (w : W c nm X env fa F ρ vars σ s) (r : Rds c F ρ s.heap vs ds) (e : bestD .Gt ds = some d) : BiR c A F ρ s .max vs d := by
  intro Q Ex h
  rcases bestD_cases e with ⟨l, rfl, e⟩ | ⟨x, y, rfl, e⟩ | ⟨x, y, z, rfl, e⟩
  · obtain ⟨v, rfl, r1⟩ := r.one
    exact wpAny_with_toks (n := s.toks) (Nat.le_refl _) (call_max_walk (wpAny_mono (bestList hh (.inl rfl) w r1 e h) (fun it s2 h => h) fun _ _ e _ => e))
  · have hs := r.nums (bestOf_all e)
    obtain ⟨v1, v2, rfl⟩ := two_inv hs
    exact wpAny_with_toks (n := s.toks) (Nat.le_refl _) (call_max_two (wpAny_mono (bestTup hh (.inl rfl) hs e h) (fun it s2 h => h) fun _ _ e _ => e))
  · have hs := r.nums (bestOf_all e)
    obtain ⟨v1, v2, v3, rfl⟩ := three_inv hs
    exact wpAny_with_toks (n := s.toks) (Nat.le_refl _) (call_max_three (wpAny_mono (bestTup hh (.inl rfl) hs e h) (fun it s2 h => h) fun _ _ e _ => e))
theorem bi_min {ds : List D} {d : D} {vs : List Value} (hh : A.handled = none) (w : W c nm X env fa F ρ vars σ s) (r : Rds c F ρ s.heap vs ds) (e : bestD .Lt ds = some d) : BiR c A F ρ s .min vs d := by
  intro Q Ex h
  rcases bestD_cases e with ⟨l, rfl, e⟩ | ⟨x, y, rfl, e⟩ | ⟨x, y, z, rfl, e⟩
  · obtain ⟨v, rfl, r1⟩ := r.one
    exact wpAny_with_toks (n := s.toks) (Nat.le_refl _) (call_min_walk (wpAny_mono (bestList hh (.inr rfl) w r1 e h) (fun it s2 h => h) fun _ _ e _ => e))
  · have hs := r.nums (bestOf_all e)
    obtain ⟨v1, v2, rfl⟩ := two_inv hs
    exact wpAny_with_toks (n := s.toks) (Nat.le_refl _) (call_min_two (wpAny_mono (bestTup hh (.inr rfl) hs e h) (fun it s2 h => h) fun _ _ e _ => e))
  · have hs := r.nums (bestOf_all e)
    obtain ⟨v1, v2, v3, rfl⟩ := three_inv hs
    exact wpAny_with_toks (n := s.toks) (Nat.le_refl _) (call_min_three (wpAny_mono (bestTup hh (.inr rfl) hs e h) (fun it s2 h => h) fun _ _ e _ => e))
theorem bi_abs {x d : D} {v : Value} (r : Rd c F ρ s.heap v x) (e : ((intD x).map fun a => D.int (if a < 0 then -a else a)) = some d) : BiR c A F ρ s .abs [v] d := by
  intro Q Ex h
  refine mapE e fun a h1 h2 => ?_
  subst h2
  rw [intD_inv h1] at r
  obtain ⟨t, rfl⟩ := r.int
  exact wpAny_with_toks (n := s.toks) (Nat.le_refl _) (call_abs_int fun u tk ht => h _ _ (.toks' ht) (.old (.int _ u)))
theorem roundD_inv {x : UInt64} {i : Int} (e : roundD x = some i) : ∃ sg m ex, Float64.decode x = .fin sg m ex ∧ i = Float64.nearestOf sg m ex := by
  unfold roundD at e
  match hd : Float64.decode x, e with
  | .fin sg m ex, e => exact ⟨sg, m, ex, rfl, (Option.some.inj e).symm⟩
theorem bi_round {x d : D} {v : Value} (r : Rd c F ρ s.heap v x) (e : ((fltD x).bind fun a => (roundD a).map D.int) = some d) : BiR c A F ρ s .round [v] d := by
  intro Q Ex h
  refine bindE e fun a h1 h2 => mapE h2 fun i h3 h4 => ?_
  subst h4
  rw [fltD_inv h1] at r
  obtain ⟨t, rfl⟩ := r.flt
  obtain ⟨sg, m, ex, hd, rfl⟩ := roundD_inv h3
  refine PySem.Flt.round_via1 (call_gives PySem.F.slot_float_round (PySem.typeIs_float _ _ _) PySem.F.entry_float_round (PySem.F.args_float_round_1 _) (PySem.Flt.gives_round _ hd) ?_)
  exact h _ _ .tok (.old (.int _ _))
theorem bi_sum {x d : D} {v : Value} (hh : A.handled = none) (w : W c nm X env fa F ρ vars σ s) (r : Rd c F ρ s.heap v x) (e : ((lstD x).bind fun xs => (intsOf xs).map fun is => D.int (sumInts is)) = some d) : BiR c A F ρ s .sum [v] d := by
  intro Q Ex h
  refine bindE e fun xs h1 h2 => mapE h2 fun is e1 h4 => ?_
  subst h4
  rw [lstD_inv h1] at r
  obtain ⟨l, us, rfl, hl, hs⟩ := w.g.list r
  obtain ⟨q1, q2⟩ := intsOf_nums hs e1
  obtain ⟨ps, hps⟩ := q1.items
  rw [hps] at hl
  refine wpAny_with_toks (n := s.toks) (Nat.le_refl _) (PySem.sum_intListG hh hl fun h' tk t' hk ht => ?_)
  have : preSum (numAt ps) ps.size = sumInts is := by
    rw [preSum_eq, List.take_of_length_le (by simp), ← nums_intItems, ← hps, ← q2]
  rw [this]
  exact h _ _ (Kp.mk2 hk ht) (.old (.int _ _))
theorem bi_tuple {x d : D} {v : Value} (w : W c nm X env fa F ρ vars σ s) (r : Rd c F ρ s.heap v x) (e : ((lstD x).bind fun xs => if xs.length ≤ maxLen then some (D.tup xs) else none) = some d) : BiR c A F ρ s .tuple [v] d := by
  intro Q Ex h
  refine bindE e fun xs h1 h2 => ?_
  obtain ⟨hn, h2⟩ := iteT h2
  cases h2
  rw [lstD_inv h1] at r
  obtain ⟨l, us, rfl, hl, hs⟩ := w.g.list r
  refine call_tuple_list hl (fun h' hk => ?_) (by rw [List.size_toArray, hs.length]; exact size_of_maxLen hn)
  have hnone : s.heap.get? h'.objs.size = none := by
    cases q : s.heap.get? h'.objs.size with
    | none => rfl
    | some o => exact absurd (Heap.lt_size (hk _ o q)) (Nat.lt_irrefl _)
  exact h _ _ (Kp.mk2 (tk := s.toks) (fun b o e => Heap.get?_push_of_some _ (hk b o e)) (Nat.le_refl _)) (.tup (vs := us) (n := 0) hnone (Heap.get?_push_size _ rfl) rfl rfl hs)
theorem divmodD_inv {ds : List D} {d : D} (e : divmodD ds = some d) : ∃ a b, ds = [.int a, .int b] ∧ ¬ (b == 0 || !small b) = true ∧ d = .tup [.int (a.fdiv b), .int (a.fmod b)] := by
  match ds, e with
  | [x, y], e =>
    refine bindE (show ((intD x).bind fun a => (intD y).bind fun b => if b == 0 || !small b then none else some (D.tup [.int (a.fdiv b), .int (a.fmod b)])) = some d from e) fun a h1 h2 => bindE h2 fun b h3 h4 => ?_
    obtain ⟨hc, h4⟩ := iteF h4
    exact ⟨a, b, by rw [intD_inv h1, intD_inv h3], hc, (Option.some.inj h4).symm⟩
  | [], e => (first | exact noneE e | exact falseE e | exact nomatch e)
  | [_], e => (first | exact noneE e | exact falseE e | exact nomatch e)
  | _ :: _ :: _ :: _, e => (first | exact noneE e | exact falseE e | exact nomatch e)
theorem bi_divmod {ds : List D} {d : D} {vs : List Value} (r : Rds c F ρ s.heap vs ds) (e : divmodD ds = some d) : BiR c A F ρ s .divmod vs d := by
  intro Q Ex h
  obtain ⟨x, y, rfl, hc, rfl⟩ := divmodD_inv e
  obtain ⟨v, us, rfl, r1, rs⟩ := r.inv
  obtain ⟨v2, us, rfl, r2, rs⟩ := rs.inv
  obtain rfl := (rs.inv : us = [])
  obtain ⟨t, rfl⟩ := r1.int
  obtain ⟨u, rfl⟩ := r2.int
  rw [Bool.or_eq_true, not_or] at hc
  refine PyProof.Rows.divmod_int (fun q => hc.1 (beq_iff_eq.mpr q)) ?_ (.inl (noPy_small (by cases q : small y <;> first | rfl | exact absurd (by rw [q]; rfl) hc.2)))
  exact h _ _ (Kp.mk2 (fun b o e => Heap.get?_push_of_some _ e) (Nat.le_add_right s.toks 2)) (.tup (vs := [.int (x.fdiv y) s.toks, .int (x.fmod y) (s.toks + 1)]) (n := 0) (none_at_size _) (Heap.get?_push_size _ rfl) rfl rfl (.cons (.int _ _) (.cons (.int _ _) .nil)))

theorem biOk {b : Bi} {ds : List D} {d : D} {vs : List Value} (hh : A.handled = none) (gd : Good 0 A) (hso : b = .sorted → SortOk c) (w : W c nm X env fa F ρ vars σ s) (r : Rds c F ρ s.heap vs ds) (e : biD b ds = some d) : BiR c A F ρ s b vs d := by
  cases b with
  | len => obtain ⟨x, rfl, e⟩ := one_inv e; obtain ⟨v, rfl, r1⟩ := r.one; exact bi_len w r1 e
  | max => exact bi_max hh w r e
  | min => exact bi_min hh w r e
  | abs => obtain ⟨x, rfl, e⟩ := one_inv e; obtain ⟨v, rfl, r1⟩ := r.one; exact bi_abs r1 e
  | round => obtain ⟨x, rfl, e⟩ := one_inv e; obtain ⟨v, rfl, r1⟩ := r.one; exact bi_round r1 e
  | sum => obtain ⟨x, rfl, e⟩ := one_inv e; obtain ⟨v, rfl, r1⟩ := r.one; exact bi_sum hh w r1 e
  | sorted =>
    have e0 := e
    obtain ⟨x, rfl, e⟩ := one_inv e
    obtain ⟨v, rfl, r1⟩ := r.one
    refine bindE e fun xs h1 _ => ?_
    rw [lstD_inv h1] at r1 e0
    exact fun Q Ex h => hso rfl nm X env fa F ρ vars σ s A v _ d Q Ex hh gd w r1 e0 h
  | tuple => obtain ⟨x, rfl, e⟩ := one_inv e; obtain ⟨v, rfl, r1⟩ := r.one; exact bi_tuple w r1 e
  | divmod => exact bi_divmod r e
  | _ => (first | exact noneE e | exact falseE e | exact nomatch e)

theorem biVal_id : ∀ b, ∃ T, biVal b = .type T ∨ biVal b = .builtin T := by
  intro b; cases b <;> first | exact ⟨_, .inl rfl⟩ | exact ⟨_, .inr rfl⟩

theorem EvV.bi {x : Str} {b : Bi} {p pos : Pos} {args : List Expr} {ds xs : List D} {d : D} (hh : A.handled = none) (gd : Good 0 A) (Z : Bas c) (N : BiFree c) (hso : b = .sorted → SortOk c) (hx : isGlob nm x = true) (hb : x = biName b)
    (hns : (starEach args env).all (!·.1) = true) (ha : EvL c nm X env fa A (spliced (backTo pos (starEach args env))) vars σ ds σ1) (er : ress σ1 ds = some xs) (e : biD b xs = some d) :
    EvV c nm X env fa A (eval (.Call (.Name x p) args [] pos) env) vars σ d σ1 := by
  intro F ρ s Q Ex w post
  obtain ⟨T, hT⟩ := biVal_id b
  refine biCall (T := T) Z N hx hb hT hns ha w fun F1 ρ1 vs s1 l1 p1 w1 r1 => ?_
  refine biOk hh gd hso w1 (w1.g.rds r1 er) e _ _ fun v s2 k r => ?_
  obtain ⟨F2, l2, w2, r2⟩ := w1.res k r
  exact post F2 ρ1 v s2 (l1.trans l2) p1 w2 r2

theorem join_fold (sep : Array Nat) : ∀ (r : List Str) (c x : Array Nat), r.foldl (fun (acc : Array Nat) (p : Str) => acc ++ sep ++ p.cps) (c ++ x) = c ++ r.foldl (fun (acc : Array Nat) (p : Str) => acc ++ sep ++ p.cps) x
  | [], c, x => rfl
  | p :: r, c, x => by
    simp only [List.foldl_cons]
    rw [← join_fold sep r c (x ++ sep ++ p.cps)]
    simp [Array.append_assoc]
theorem join_cons (sep a b : Str) (r : List Str) : Txt.join sep (a :: b :: r) = ⟨a.cps ++ sep.cps ++ (Txt.join sep (b :: r)).cps⟩ := by
  show Str.mk ((b :: r).foldl (fun (acc : Array Nat) (p : Str) => acc ++ sep.cps ++ p.cps) a.cps) = Str.mk (a.cps ++ sep.cps ++ r.foldl (fun (acc : Array Nat) (p : Str) => acc ++ sep.cps ++ p.cps) b.cps)
  rw [List.foldl_cons, join_fold]

theorem joinD_inv {sep t : List Nat} {x y : D} {xs : List D} (e : joinD sep (x :: y :: xs) = some t) : ∃ a t', x = .str a ∧ joinD sep (y :: xs) = some t' ∧ t = a ++ sep ++ t' := by
  cases x with
  | str a => exact mapE (show (joinD sep (y :: xs)).map (a ++ sep ++ ·) = some t from e) fun t' h1 h2 => ⟨a, t', rfl, h1, h2.symm⟩
  | _ => (first | exact noneE e | exact falseE e | exact nomatch e)
theorem joinD_one {sep t : List Nat} {x : D} (e : joinD sep [x] = some t) : x = .str t := by
  cases x with
  | str a => exact congrArg D.str (Option.some.inj e)
  | _ => (first | exact noneE e | exact falseE e | exact nomatch e)
theorem join_len {a s t S N : Nat} (h : S + N * s ≤ t + s) : a + S + (N + 1) * s ≤ a + s + t + s := by rw [Nat.succ_mul]; omega
/-- the texts of a list of them -/
noncomputable def txts (ys : List (List Nat)) : List Str := ys.map fun y => ⟨y.toArray⟩
theorem joinD_strs {F : FM} {ρ : List (List Addr)} {sep : List Nat} : ∀ {xs : List D} {vs : List Value} {t : List Nat}, Rvs c.C F ρ vs xs → joinD sep xs = some t →
    ∃ ys : List (List Nat), StrsAre vs (txts ys) ∧ Txt.join ⟨sep.toArray⟩ (txts ys) = ⟨t.toArray⟩ ∧ (ys.map List.length).sum + ys.length * sep.length ≤ t.length + sep.length ∧ ys.length = xs.length
  | [], vs, t, h, e => by
    obtain rfl := (h.inv : vs = [])
    cases e; exact ⟨[], .nil, rfl, by simp, rfl⟩
  | [x], vs, t, h, e => by
    obtain rfl := joinD_one e
    obtain ⟨v, vs, rfl, r, rs⟩ := h.inv
    obtain rfl := (rs.inv : vs = [])
    obtain ⟨u, rfl⟩ := r.inv
    exact ⟨[t], .cons _ u .nil, rfl, by simp, rfl⟩
  | x :: y :: xs, vs, t, h, e => by
    obtain ⟨a, t', rfl, e1, rfl⟩ := joinD_inv e
    obtain ⟨v, vs, rfl, r, rs⟩ := h.inv
    obtain ⟨u, rfl⟩ := r.inv
    obtain ⟨ys, q1, q2, q3, q4⟩ := joinD_strs rs e1
    cases ys with
    | nil => (first | exact noneE q4 | exact falseE q4 | exact nomatch q4)
    | cons y ys =>
      refine ⟨a :: y :: ys, .cons _ u q1, ?_, ?_, congrArg (· + 1) q4⟩
      · show Txt.join _ (_ :: _ :: _) = _
        rw [join_cons]
        have h2 := congrArg Str.cps (show Txt.join ⟨sep.toArray⟩ ((⟨y.toArray⟩ : Str) :: txts ys) = _ from q2)
        rw [show (List.map (fun y => (⟨y.toArray⟩ : Str)) ys) = txts ys from rfl, h2]
        simp
      · rw [List.length_append, List.length_append]
        exact join_len q3

theorem txts_len (ys : List (List Nat)) : ((txts ys).map (·.length)).sum = (ys.map List.length).sum := by
  unfold txts; rw [List.map_map]; congr 1
theorem join_fit {ys : List (List Nat)} {xs : List D} {sep t : List Nat} (q3 : (ys.map List.length).sum + ys.length * sep.length ≤ t.length + sep.length) (q4 : ys.length = xs.length) (hz : t.length + xs.length + sep.length ≤ maxLen) :
    ((txts ys).map (·.length)).sum + (txts ys).length * (⟨sep.toArray⟩ : Str).length ≤ 16777216 := by
  have hm : maxLen = 1048576 := rfl
  rw [txts_len, show (txts ys).length = ys.length from List.length_map .., str_length]; omega
theorem EvV.join {o a : Expr} {apos pos : Pos} {y : D} {sep t : List Nat} {xs : List D} (hb : plainBase o = true) (hp : (apos.endLine == pos.line) = true) (hs1 : starEach [a] env = (false, eval a env) :: starEach [] env)
    (ho : EvV c nm X env fa A (eval o env) vars σ (.str sep) σ1) (ha : EvV c nm X env fa A (eval a env) vars σ1 y σ2) (hy : res σ2 y = some (.lst xs)) (e : joinD sep xs = some t) (hz : t.length + xs.length + sep.length ≤ maxLen) :
    EvV c nm X env fa A (eval (.Call (.Attribute o ("join" : Str) apos) [a] [] pos) env) vars σ (.str t) σ2 := by
  intro F ρ s Q Ex w post
  have hns : (starEach [a] env).all (!·.1) = true := by rw [hs1]; rfl
  refine MCall hb hp (by simp) hns (ho F ρ s _ Ex w fun F1 ρ1 v1 s1 l1 p1 w1 r1 => fun pl => ?_)
  obtain ⟨tk, rfl⟩ := r1.inv
  refine getMethod_builtin (typeIs_str _ _ _) PySem.F.plainAttrs_str PySem.F.slot_str_join PySem.F.type_str_join (fun _ e => nomatch e) ?_
  refine CallB hns ((EvL.cons (ds := []) hs1 ha EvL.nil) F1 ρ1 s1 _ Ex w1 fun F2 ρ2 vs s2 l2 p2 w2 r2 => ?_)
  obtain ⟨u, vs, rfl, ru, rn⟩ := r2.inv
  obtain rfl := (rn.inv : vs = [])
  obtain ⟨l, us, rfl, hl, hr⟩ := w2.g.list (w2.g.rd ru hy)
  obtain ⟨ys, q1, q2, q3, q4⟩ := joinD_strs hr e
  refine wpAny_with_toks (n := s2.toks) (Nat.le_refl _) (PyProof.Rows.join_list hl q1 (join_fit q3 q4 hz) fun t' k ht => ?_)
  rw [q2]
  exact post F2 ρ2 _ _ (l1.trans l2) (p1.trans p2) (w2.keep (.toks' ht)) (.str _ _)
end
end Ev
end
section
set_option maxRecDepth 100000
set_option autoImplicit false
set_option linter.all false
namespace Ev
open PySem PySem.W PySem.Calls PyProof.Rows PySem.SeqAt

section
variable {c : Cx} {nm : Nm} {X : PMap} {fa : List (Option Addr)} {σ σ' σ1 σ2 σ3 σ4 : Sto} {env : Env} {vars vars' vars1 : Vars} {A : Around} {F F' F0 : FM} {ρ ρ' ρ0 : List (List Addr)} {s s' : Shared} {fl : Flw}

theorem EvV.and {a b : Expr} {pos : Pos} {x x' d : D} {t : Bool} (ha : EvV c nm X env fa A (eval a env) vars σ x σ1) (ex : res σ1 x = some x') (et : truthD x' = some t)
    (hb : t = true → EvV c nm X env fa A (eval b env) vars σ1 d σ2) (h0 : t = false → d = x ∧ σ2 = σ1) : EvV c nm X env fa A (eval (.BoolOp .And [a, b] pos) env) vars σ d σ2 := by
  intro F ρ s Q Ex w post
  show wpAny _ _ (eval a env >>= fun v => standAt pos >>= fun _ => holding [v] (truthy v) >>= fun t => match BoolOp.And, t with
    | .And, false | .Or, true => pure v
    | _, _ => boolOp pos .And [eval b env]) Q Ex s
  refine wpAny_bind (ha F ρ s _ Ex w fun F1 ρ1 v1 s1 l1 p1 w1 r1 => wpAny_bind (wpAny_standAt (wpAny_bind (wpAny_holding ?_))))
  refine truthOk w1.g (w1.g.rd r1 ex) et fun s2 k => ?_
  cases t with
  | false =>
    obtain ⟨rfl, rfl⟩ := h0 rfl
    exact wpAny_pure (post F1 ρ1 v1 s2 l1 p1 (w1.keep k) r1)
  | true => exact hb rfl F1 ρ1 s2 _ Ex (w1.keep k) fun F2 ρ2 v2 s3 l2 p2 w2 r2 => post F2 ρ2 v2 s3 (l1.trans l2) (p1.trans p2) w2 r2
theorem EvV.or {a b : Expr} {pos : Pos} {x x' d : D} {t : Bool} (ha : EvV c nm X env fa A (eval a env) vars σ x σ1) (ex : res σ1 x = some x') (et : truthD x' = some t)
    (hb : t = false → EvV c nm X env fa A (eval b env) vars σ1 d σ2) (h0 : t = true → d = x ∧ σ2 = σ1) : EvV c nm X env fa A (eval (.BoolOp .Or [a, b] pos) env) vars σ d σ2 := by
  intro F ρ s Q Ex w post
  show wpAny _ _ (eval a env >>= fun v => standAt pos >>= fun _ => holding [v] (truthy v) >>= fun t => match BoolOp.Or, t with
    | .And, false | .Or, true => pure v
    | _, _ => boolOp pos .Or [eval b env]) Q Ex s
  refine wpAny_bind (ha F ρ s _ Ex w fun F1 ρ1 v1 s1 l1 p1 w1 r1 => wpAny_bind (wpAny_standAt (wpAny_bind (wpAny_holding ?_))))
  refine truthOk w1.g (w1.g.rd r1 ex) et fun s2 k => ?_
  cases t with
  | true =>
    obtain ⟨rfl, rfl⟩ := h0 rfl
    exact wpAny_pure (post F1 ρ1 v1 s2 l1 p1 (w1.keep k) r1)
  | false => exact hb rfl F1 ρ1 s2 _ Ex (w1.keep k) fun F2 ρ2 v2 s3 l2 p2 w2 r2 => post F2 ρ2 v2 s3 (l1.trans l2) (p1.trans p2) w2 r2
theorem EvV.ite {t a b : Expr} {pos : Pos} {v : Bool} {d : D} (h : EvB c nm X env fa A (isTrue t env (eval t env)) vars σ v σ1)
    (ha : v = true → EvV c nm X env fa A (eval a env) vars σ1 d σ2) (hb : v = false → EvV c nm X env fa A (eval b env) vars σ1 d σ2) : EvV c nm X env fa A (eval (.IfExp t a b pos) env) vars σ d σ2 := by
  intro F ρ s Q Ex w post
  refine wpAny_IfExp (h F ρ s _ Ex w fun F1 ρ1 s1 l1 p1 w1 => ?_)
  cases v with
  | true => exact ha rfl F1 ρ1 s1 _ Ex w1 fun F2 ρ2 f s2 l2 p2 w2 r2 => post F2 ρ2 f s2 (l1.trans l2) (p1.trans p2) w2 r2
  | false => exact hb rfl F1 ρ1 s1 _ Ex w1 fun F2 ρ2 f s2 l2 p2 w2 r2 => post F2 ρ2 f s2 (l1.trans l2) (p1.trans p2) w2 r2

/-! tests -/
theorem EvB.not {a : Expr} {pos : Pos} {t : Bool} {whole : Sem Value} (h : EvB c nm X env fa A (isTrue a env (eval a env)) vars σ t σ1) : EvB c nm X env fa A (isTrue (.UnaryOp .Not a pos) env whole) vars σ (!t) σ1 :=
  fun F ρ s Q Ex w post => wpAny_isTrue_Not (h F ρ s _ Ex w post)
theorem EvB.and {a b : Expr} {pos : Pos} {t u : Bool} {whole : Sem Value} (ha : EvB c nm X env fa A (isTrue a env (eval a env)) vars σ t σ1) (hb : t = true → EvB c nm X env fa A (isTrue b env (eval b env)) vars σ1 u σ2) (h0 : t = false → u = false ∧ σ2 = σ1) :
    EvB c nm X env fa A (isTrue (.BoolOp .And [a, b] pos) env whole) vars σ u σ2 := by
  intro F ρ s Q Ex w post
  show wpAny _ _ (isTrue a env (eval a env) >>= fun t => match BoolOp.And, t with
    | .And, false => pure false
    | .Or, true => pure true
    | _, _ => isTrue b env (eval b env) >>= fun u => match BoolOp.And, u with
      | .And, false => pure false
      | .Or, true => pure true
      | _, _ => pure true) Q Ex s
  refine wpAny_bind (ha F ρ s _ Ex w fun F1 ρ1 s1 l1 p1 w1 => ?_)
  cases t with
  | false => obtain ⟨rfl, rfl⟩ := h0 rfl; exact wpAny_pure (post F1 ρ1 s1 l1 p1 w1)
  | true =>
    refine wpAny_bind (hb rfl F1 ρ1 s1 _ Ex w1 fun F2 ρ2 s2 l2 p2 w2 => ?_)
    cases u <;> exact wpAny_pure (post F2 ρ2 s2 (l1.trans l2) (p1.trans p2) w2)
theorem EvB.or {a b : Expr} {pos : Pos} {t u : Bool} {whole : Sem Value} (ha : EvB c nm X env fa A (isTrue a env (eval a env)) vars σ t σ1) (hb : t = false → EvB c nm X env fa A (isTrue b env (eval b env)) vars σ1 u σ2) (h0 : t = true → u = true ∧ σ2 = σ1) :
    EvB c nm X env fa A (isTrue (.BoolOp .Or [a, b] pos) env whole) vars σ u σ2 := by
  intro F ρ s Q Ex w post
  show wpAny _ _ (isTrue a env (eval a env) >>= fun t => match BoolOp.Or, t with
    | .And, false => pure false
    | .Or, true => pure true
    | _, _ => isTrue b env (eval b env) >>= fun u => match BoolOp.Or, u with
      | .And, false => pure false
      | .Or, true => pure true
      | _, _ => pure false) Q Ex s
  refine wpAny_bind (ha F ρ s _ Ex w fun F1 ρ1 s1 l1 p1 w1 => ?_)
  cases t with
  | true => obtain ⟨rfl, rfl⟩ := h0 rfl; exact wpAny_pure (post F1 ρ1 s1 l1 p1 w1)
  | false =>
    refine wpAny_bind (hb rfl F1 ρ1 s1 _ Ex w1 fun F2 ρ2 s2 l2 p2 w2 => ?_)
    cases u <;> exact wpAny_pure (post F2 ρ2 s2 (l1.trans l2) (p1.trans p2) w2)
theorem EvB.dflt {e : Expr} {x x' : D} {b : Bool} (h : EvV c nm X env fa A (eval e env) vars σ x σ1) (ex : res σ1 x = some x') (et : truthD x' = some b)
    (he : isTrue e env (eval e env) = (do let v ← eval e env; standAt e.pos; holding [v] (truthy v))) : EvB c nm X env fa A (isTrue e env (eval e env)) vars σ b σ1 := by
  intro F ρ s Q Ex w post
  rw [he]
  refine wpAny_bind (h F ρ s _ Ex w fun F1 ρ1 v1 s1 l1 p1 w1 r1 => wpAny_bind (wpAny_standAt (wpAny_holding ?_)))
  exact truthOk w1.g (w1.g.rd r1 ex) et fun s2 k => post F1 ρ1 s2 l1 p1 (w1.keep k)

theorem EvB.tnil : EvB c nm X env fa A (forIn ([] : List Expr) true fun c r => if r = true then do let ok ← isTrue c env (eval c env); pure (ForInStep.yield ok) else pure (ForInStep.yield r)) vars σ true σ :=
  fun F ρ s Q Ex w post => wpAny_tests_nil (post F ρ s PLe.rfl (List.prefix_refl _) w)
theorem tests_false {r : List Expr} : (forIn r false fun c r => if r = true then do let ok ← isTrue c env (eval c env); pure (ForInStep.yield ok) else pure (ForInStep.yield r)) = (pure false : Sem Bool) := by
  induction r with
  | nil => rfl
  | cons e r ih => rw [List.forIn_cons]; exact ih
theorem EvB.tcons {e : Expr} {r : List Expr} {t u : Bool} (h : EvB c nm X env fa A (isTrue e env (eval e env)) vars σ t σ1) (hr : t = true → EvB c nm X env fa A (forIn r true fun c r => if r = true then do let ok ← isTrue c env (eval c env); pure (ForInStep.yield ok) else pure (ForInStep.yield r)) vars σ1 u σ2)
    (h0 : t = false → u = false ∧ σ2 = σ1) : EvB c nm X env fa A (forIn (e :: r) true fun c r => if r = true then do let ok ← isTrue c env (eval c env); pure (ForInStep.yield ok) else pure (ForInStep.yield r)) vars σ u σ2 := by
  intro F ρ s Q Ex w post
  rw [List.forIn_cons]
  simp only [if_true]
  refine wpAny_bind (wpAny_bind (h F ρ s _ Ex w fun F1 ρ1 s1 l1 p1 w1 => wpAny_pure ?_))
  dsimp only
  cases t with
  | false => obtain ⟨rfl, rfl⟩ := h0 rfl; rw [tests_false]; exact wpAny_pure (post F1 ρ1 s1 l1 p1 w1)
  | true => exact hr rfl F1 ρ1 s1 _ Ex w1 fun F2 ρ2 s2 l2 p2 w2 => post F2 ρ2 s2 (l1.trans l2) (p1.trans p2) w2
end

/-! what a tree that is met is not -/
theorem star_cons {e : Expr} {es : List Expr} {env : Env} (h : okX e = true) : starEach (e :: es) env = (false, eval e env) :: starEach es env := by
  cases e <;> first | rfl | (first | exact noneE h | exact falseE h | exact nomatch h)
theorem noFold {e : Expr} {env : Env} (h : okX e = true) : ∀ x, foldedSetIterable e env x = pure x := by
  cases e <;> first | exact fun _ => rfl | (first | exact noneE h | exact falseE h | exact nomatch h)
theorem noMark {e : Expr} {op : CmpOp} (h : okX e = true) : ∀ t : Sem Value, markedEach [op] [e] [t] = [t] := by
  cases e <;> first | exact fun _ => rfl | (first | exact noneE h | exact falseE h | exact nomatch h)
theorem subscriptedPlain {i : Expr} (h : okX i = true) : ∀ o v, subscripted i false o v = operate [o, v] (getItem o v) := by
  cases i <;> first | exact fun _ _ => rfl | (first | exact noneE h | exact falseE h | exact nomatch h)
end Ev
end
section
set_option maxRecDepth 100000
set_option autoImplicit false
set_option linter.all false
namespace Ev
open PySem PySem.W PySem.Calls PyProof.Rows PySem.SeqAt

/-- what the defs that a body calls answer -/
structure DlOk (c : Cx) (C : Cc) (Δ : Dl) (n : Nat) : Prop where
  Z : Bas c
  N : BiFree c
  cls : ClsOk c
  cset : ClsSet c
  nb : NoneBooked c.B
  fn : ∀ x f, strIdx C.fns x = some f → ∃ v, nsIn c.K mainGlobals x = some (some v) ∧ keepIn c.K v = true ∧ PureC c n v (Δ.fns f)
  mu : ∀ x f, strIdx C.muts x = some f → ∃ v, nsIn c.K mainGlobals x = some (some v) ∧ keepIn c.K v = true ∧ MutC c n v (Δ.muts f)
  me : ∀ m f, strIdx C.meths m = some f → ∃ g, findIn c.K (.ref c.C) m = some (some (.ref g)) ∧ isFn c.K (.ref g) = true ∧ plainGet c.K c.C m = true ∧ (∀ k, k < 5 → (attrName k == m) = false) ∧ keepIn c.K (.ref g) = true ∧ PureC c n (.ref g) (Δ.fns (methBase + f))
  nw : ∃ v, nsIn c.K mainGlobals C.cls = some (some v) ∧ keepIn c.K v = true ∧ NewC c n v Δ.new
  cat : ∀ nm X env fa A vars σ x p y pos t, isGlob nm x = true → (x == C.cls) = true → C.cattrs.lookup y = some t → EvV c nm X env fa A (eval (.Attribute (.Name x p) y pos) env) vars σ (.str t) σ
  hot : Δ.hot = true → c.pos = true
  srt : Δ.srt = true → SortOk c

noncomputable def isLC : Expr → Bool
  | .ListComp _ _ _ _ => true
  | _ => false
/-- the tests of a comprehension -/
noncomputable def testsOf (xs : List Expr) (env : Env) : Sem Bool := forIn xs true fun c r => if r = true then do let ok ← isTrue c env (eval c env); pure (ForInStep.yield ok) else pure (ForInStep.yield r)

/-- e of mine stands for the tree x -/
structure MX (c : Cx) (Δ : Dl) (n0 : Nat) (nm : Nm) (e : E) (x : Expr) : Prop where
  ok : okX x = true
  ev : ∀ n env fa X A vars σ d σ', Good n0 A → evE Δ n e vars σ = some (d, σ') → EvV c nm X env fa A (eval x env) vars σ d σ'
  tr : ∀ n env fa X A vars σ b σ', Good n0 A → trE Δ n e vars σ = some (b, σ') → EvB c nm X env fa A (isTrue x env (eval x env)) vars σ b σ'
  it : ∀ n nm' t T env fa X A vars σ ds σ', Good n0 A → isT nm' T t = true → itOk e T = true → itE Δ n e vars σ = some (ds, σ') → EvI c nm X env fa A t x vars σ ds σ' ∧ ds.length ≤ maxLen
  us : isLC x = true → ∀ n env fa X A vars σ d σ', Good n0 A → evE Δ n e vars σ = some (d, σ') → EvU c nm X env fa A x vars σ d σ'
/-- a tree that is tested as its value is -/
noncomputable def PlainB (x : Expr) : Prop := ∀ env, isTrue x env (eval x env) = (do let v ← eval x env; standAt x.pos; holding [v] (truthy v))
noncomputable def PlainT (Δ : Dl) (e : E) : Prop := ∀ n vars σ, trE Δ (n + 1) e vars σ = seq1 (evE Δ n e vars) (fun x σ => (truK x σ).map fun t => (t, σ)) σ
noncomputable def PlainI (Δ : Dl) (e : E) : Prop := ∀ n vars σ, itE Δ (n + 1) e vars σ = seq1 (evE Δ n e vars) itK σ

section
variable {c : Cx} {C : Cc} {Δ : Dl} {n0 : Nat} {nm : Nm} {e : E} {x : Expr}

theorem MX.plainB (hE : ∀ n env fa X A vars σ d σ', Good n0 A → evE Δ n e vars σ = some (d, σ') → EvV c nm X env fa A (eval x env) vars σ d σ') (hb : PlainB x) (ht : PlainT Δ e) :
    ∀ n env fa X A vars σ b σ', Good n0 A → trE Δ n e vars σ = some (b, σ') → EvB c nm X env fa A (isTrue x env (eval x env)) vars σ b σ'
  | 0, env, fa, X, A, vars, σ, b, σ', gd, h => by first | exact noneE h | exact falseE h | exact nomatch h
  | n + 1, env, fa, X, A, vars, σ, b, σ', gd, h => by
    rw [ht n vars σ] at h
    refine seqE h fun y σ1 h1 h2 => mapE h2 fun t h3 h4 => ?_
    obtain ⟨rfl, rfl⟩ := Prod.mk.inj h4
    exact bindE h3 fun y' h5 h6 => EvB.dflt (hE n env fa X A vars σ y σ1 gd h1) h5 h6 (hb env)
theorem itK_inv {d : D} {σ σ' : Sto} {ds : List D} (h : itK d σ = some (ds, σ')) : ∃ d', Ev.frz σ d = some (d', σ') ∧ itemsOf d' = some ds ∧ ds.length ≤ maxLen :=
  bindE h fun p h1 h2 => bindE h2 fun ds' h3 h4 => by
    obtain ⟨h5, h6⟩ := iteT h4
    obtain ⟨rfl, rfl⟩ := pairI h6
    exact ⟨p.1, h1, h3, h5⟩
theorem MX.plainI (hE : ∀ n env fa X A vars σ d σ', Good n0 A → evE Δ n e vars σ = some (d, σ') → EvV c nm X env fa A (eval x env) vars σ d σ') (hi : PlainI Δ e) :
    ∀ n nm' t T env fa X A vars σ ds σ', Good n0 A → isT nm' T t = true → itOk e T = true → itE Δ n e vars σ = some (ds, σ') → EvI c nm X env fa A t x vars σ ds σ' ∧ ds.length ≤ maxLen
  | 0, nm', t, T, env, fa, X, A, vars, σ, ds, σ', gd, _, _, h => by first | exact noneE h | exact falseE h | exact nomatch h
  | n + 1, nm', t, T, env, fa, X, A, vars, σ, ds, σ', gd, _, _, h => by
    rw [hi n vars σ] at h
    refine seqE h fun y σ1 h1 h2 => ?_
    obtain ⟨d', h3, h4, h5⟩ := itK_inv h2
    exact ⟨EvI.of gd.hh (hE n env fa X A vars σ y σ1 gd h1) h3 h4, h5⟩
/-- fuel -/
theorem MX.fuel (hE : ∀ n env fa X A vars σ d σ', Good n0 A → evE Δ (n + 1) e vars σ = some (d, σ') → EvV c nm X env fa A (eval x env) vars σ d σ') :
    ∀ n env fa X A vars σ d σ', Good n0 A → evE Δ n e vars σ = some (d, σ') → EvV c nm X env fa A (eval x env) vars σ d σ'
  | 0, env, fa, X, A, vars, σ, d, σ', gd, h => by first | exact noneE h | exact falseE h | exact nomatch h
  | n + 1, env, fa, X, A, vars, σ, d, σ', gd, h => hE n env fa X A vars σ d σ' gd h
theorem MX.of (ok : okX x = true) (hl : isLC x = false) (hb : PlainB x) (ht : PlainT Δ e) (hi : PlainI Δ e)
    (hE : ∀ n env fa X A vars σ d σ', Good n0 A → evE Δ (n + 1) e vars σ = some (d, σ') → EvV c nm X env fa A (eval x env) vars σ d σ') : MX c Δ n0 nm e x :=
  ⟨ok, MX.fuel hE, MX.plainB (MX.fuel hE) hb ht, MX.plainI (MX.fuel hE) hi, fun h => by rw [hl] at h; (first | exact noneE h | exact falseE h | exact nomatch h)⟩

/-! one lemma for each form -/
theorem hotK_inv {d d' : D} {σ σ' : Sto} (h : hotK Δ d σ = some (d', σ')) : d' = d ∧ σ' = σ ∧ (isFlt d = true → Δ.hot = true) := by
  obtain ⟨h1, h2⟩ := iteF h
  obtain ⟨rfl, rfl⟩ := pairI h2
  refine ⟨rfl, rfl, fun h => ?_⟩
  rw [h, Bool.true_and] at h1
  cases q : Δ.hot with
  | true => rfl
  | false => exact absurd (by rw [q]; rfl) h1
theorem MX.const {k : Const} {d : D} {n : Nat} {p : Pos} (D : DlOk c C Δ n0) (h : compConst k = some d) : MX c Δ n0 nm (.lit d) (.Constant k n p) :=
  .of rfl rfl (fun _ => rfl) (fun _ _ _ => rfl) (fun _ _ _ => rfl) fun n env fa X A vars σ d' σ' gd he => by
    obtain ⟨rfl, rfl, hh⟩ := hotK_inv (show hotK Δ d σ = some (d', σ') from he)
    exact EvV.const h fun q => D.hot (hh q)
theorem MX.cat {y z : Str} {p p' : Pos} {t : List Nat} (D : DlOk c C Δ n0) (h1 : isGlob nm y = true) (h2 : (y == C.cls) = true) (h3 : C.cattrs.lookup z = some t) : MX c Δ n0 nm (.lit (.str t)) (.Attribute (.Name y p) z p') :=
  .of rfl rfl (fun _ => rfl) (fun _ _ _ => rfl) (fun _ _ _ => rfl) fun n env fa X A vars σ d' σ' gd he => by
    obtain ⟨rfl, rfl, hh⟩ := hotK_inv (show hotK Δ (.str t) σ = some (d', σ') from he)
    exact D.cat _ _ _ _ _ _ _ _ _ _ _ _ h1 h2 h3
theorem MX.var {y : Str} {i : Nat} {p : Pos} (h : compVar nm y = some i) : MX c Δ n0 nm (.var i) (.Name y p) :=
  .of rfl rfl (fun _ => rfl) (fun _ _ _ => rfl) (fun _ _ _ => rfl) fun n env fa X A vars σ d' σ' gd he => by
    refine mapE (show (vars[i]?.join).map (fun d => (d, σ)) = some (d', σ') from he) fun d h1 h2 => ?_
    obtain ⟨rfl, rfl⟩ := Prod.mk.inj h2
    exact EvV.var h h1
theorem addL_inv {op : Operator} {x y : D} {p : List D × List D} (h : addL op x y = some p) : op = .Add ∧ x = .lst p.1 ∧ y = .lst p.2 := by
  cases op with
  | Add => exact bindE (show ((lstD x).bind fun xs => (lstD y).map fun ys => (xs, ys)) = some p from h) fun xs h1 h2 => mapE h2 fun ys h3 h4 => by subst h4; exact ⟨rfl, lstD_inv h1, lstD_inv h3⟩
  | _ => (first | exact noneE h | exact falseE h | exact nomatch h)
theorem binR_inv {op : Operator} {x y d : D} {σ σ' : Sto} (h : binR Δ op x y σ = some (d, σ')) :
    (∃ xs ys, op = .Add ∧ x = .lst xs ∧ y = .lst ys ∧ xs.length + ys.length ≤ maxLen ∧ d = .loc σ.length ∧ σ' = σ ++ [some (.lst (xs ++ ys))]) ∨ (binD op x y = some d ∧ σ' = σ ∧ (isFlt d = true → Δ.hot = true)) := by
  unfold binR at h
  match hq : addL op x y, h with
  | some p, h =>
    obtain ⟨h1, h2⟩ := iteT h
    obtain ⟨rfl, rfl⟩ := pairI h2
    obtain ⟨h3, h4, h5⟩ := addL_inv hq
    exact .inl ⟨p.1, p.2, h3, h4, h5, h1, rfl, rfl⟩
  | none, h =>
    refine bindE h fun z h1 h2 => ?_
    obtain ⟨rfl, rfl, h3⟩ := hotK_inv h2
    exact .inr ⟨h1, rfl, h3⟩
theorem MX.bin {op : Operator} {a b : E} {y z : Expr} {p : Pos} (D : DlOk c C Δ n0) (ha : MX c Δ n0 nm a y) (hb : MX c Δ n0 nm b z) : MX c Δ n0 nm (.bin op a b) (.BinOp y op z p) :=
  .of rfl rfl (fun _ => rfl) (fun _ _ _ => rfl) (fun _ _ _ => rfl) fun n env fa X A vars σ d' σ' gd he => by
    refine seqE (show seq1 (evE Δ n a vars) (fun x => seq1 (evE Δ n b vars) (binK Δ op x)) σ = _ from he) fun u σ1 e1 he => seqE he fun v σ2 e2 he => bindE he fun u' e3 he => bindE he fun v' e4 he => ?_
    have h1 := ha.ev n env fa X A vars σ u σ1 gd e1
    have h2 := hb.ev n env fa X A vars σ1 v σ2 gd e2
    rcases binR_inv he with ⟨xs, ys, rfl, rfl, rfl, h5, rfl, rfl⟩ | ⟨h5, rfl, h6⟩
    · exact EvV.addl h1 h2 e3 e4 h5
    · exact EvV.bin (gd.le (Nat.zero_le _)) h1 h2 e3 e4 h5 fun q => D.hot (h6 q)
theorem MX.rep {a b : E} {y z : Expr} {p p' : Pos} (ha : MX c Δ n0 nm a y) (hb : MX c Δ n0 nm b z) : MX c Δ n0 nm (.rep a b) (.BinOp (.List [y] p') .Mult z p) :=
  .of rfl rfl (fun _ => rfl) (fun _ _ _ => rfl) (fun _ _ _ => rfl) fun n env fa X A vars σ d' σ' gd he => by
    refine seqE (show seq1 (evE Δ n a vars) (fun x => seq1 (evE Δ n b vars) (repK x)) σ = _ from he) fun u σ1 e1 he => seqE he fun v σ2 e2 he => bindE he fun i e3 he => ?_
    obtain ⟨h1, h2⟩ := iteT he
    obtain ⟨rfl, rfl⟩ := pairI h2
    rw [intD_inv e3] at e2
    exact EvV.rep (star_cons ha.ok) (ha.ev n env fa X A vars σ u σ1 gd e1) (hb.ev n env fa X A vars σ1 _ σ2 gd e2) (and2 h1).1 (of_decide_eq_true (and2 h1).2)
theorem MX.neg {a : E} {y : Expr} {p : Pos} (ha : MX c Δ n0 nm a y) : MX c Δ n0 nm (.neg a) (.UnaryOp .USub y p) :=
  .of rfl rfl (fun _ => rfl) (fun _ _ _ => rfl) (fun _ _ _ => rfl) fun n env fa X A vars σ d' σ' gd he => by
    refine seqE (show seq1 (evE Δ n a vars) negK σ = _ from he) fun u σ1 e1 he => mapE he fun i e3 e4 => ?_
    obtain ⟨rfl, rfl⟩ := Prod.mk.inj e4
    rw [intD_inv e3] at e1
    exact EvV.neg (ha.ev n env fa X A vars σ _ σ1 gd e1)
theorem MX.not {a : E} {y : Expr} {p : Pos} (ha : MX c Δ n0 nm a y) : MX c Δ n0 nm (.not a) (.UnaryOp .Not y p) where
  ok := rfl
  ev := fun n env fa X A vars σ d σ' gd h => by cases n <;> (first | exact noneE h | exact falseE h | exact nomatch h)
  tr := fun n env fa X A vars σ b σ' gd h => by
    cases n with
    | zero => (first | exact noneE h | exact falseE h | exact nomatch h)
    | succ n =>
      refine seqE (show seq1 (trE Δ n a vars) (fun b σ => some (!b, σ)) σ = _ from h) fun t σ1 e1 e2 => ?_
      obtain ⟨rfl, rfl⟩ := pairI e2
      exact EvB.not (ha.tr n env fa X A vars σ t σ1 gd e1)
  it := MX.plainI (fun n env fa X A vars σ d σ' gd h => by cases n <;> (first | exact noneE h | exact falseE h | exact nomatch h)) fun _ _ _ => rfl
  us := fun h => by first | exact noneE h | exact falseE h | exact nomatch h
theorem truK_inv {d : D} {σ : Sto} {t : Bool} (h : truK d σ = some t) : ∃ d', res σ d = some d' ∧ truthD d' = some t := bindE h fun d' h1 h2 => ⟨d', h1, h2⟩
theorem MX.both {a b : E} {y z : Expr} {p : Pos} (ha : MX c Δ n0 nm a y) (hb : MX c Δ n0 nm b z) : MX c Δ n0 nm (.both a b) (.BoolOp .And [y, z] p) := by
  have hE : ∀ n env fa X A vars σ d σ', Good n0 A → evE Δ (n + 1) (.both a b) vars σ = some (d, σ') → EvV c nm X env fa A (eval (.BoolOp .And [y, z] p) env) vars σ d σ' := fun n env fa X A vars σ d' σ' gd he => by
    refine seqE (show seq1 (evE Δ n a vars) (fun x σ => (truK x σ).bind fun t => if t then evE Δ n b vars σ else some (x, σ)) σ = _ from he) fun u σ1 e1 he => bindE he fun t e2 he => ?_
    obtain ⟨u', e3, e4⟩ := truK_inv e2
    refine EvV.and (ha.ev n env fa X A vars σ u σ1 gd e1) e3 e4 (fun ht => ?_) fun ht => ?_
    · subst ht; exact hb.ev n env fa X A vars σ1 d' σ' gd he
    · subst ht; obtain ⟨rfl, rfl⟩ := pairI (show some (u, σ1) = _ from he); exact ⟨rfl, rfl⟩
  refine ⟨rfl, MX.fuel hE, fun n env fa X A vars σ t' σ' gd h => ?_, MX.plainI (MX.fuel hE) fun _ _ _ => rfl, fun h => falseE h⟩
  cases n with
  | zero => (first | exact noneE h | exact falseE h | exact nomatch h)
  | succ n =>
    refine seqE (show seq1 (trE Δ n a vars) (fun t σ => if t then trE Δ n b vars σ else some (false, σ)) σ = _ from h) fun t σ1 e1 he => ?_
    refine EvB.and (ha.tr n env fa X A vars σ t σ1 gd e1) (fun ht => ?_) fun ht => ?_
    · subst ht; exact hb.tr n env fa X A vars σ1 t' σ' gd he
    · subst ht; obtain ⟨rfl, rfl⟩ := pairI (show some (false, σ1) = _ from he); exact ⟨rfl, rfl⟩
theorem MX.either {a b : E} {y z : Expr} {p : Pos} (ha : MX c Δ n0 nm a y) (hb : MX c Δ n0 nm b z) : MX c Δ n0 nm (.either a b) (.BoolOp .Or [y, z] p) := by
  have hE : ∀ n env fa X A vars σ d σ', Good n0 A → evE Δ (n + 1) (.either a b) vars σ = some (d, σ') → EvV c nm X env fa A (eval (.BoolOp .Or [y, z] p) env) vars σ d σ' := fun n env fa X A vars σ d' σ' gd he => by
    refine seqE (show seq1 (evE Δ n a vars) (fun x σ => (truK x σ).bind fun t => if t then some (x, σ) else evE Δ n b vars σ) σ = _ from he) fun u σ1 e1 he => bindE he fun t e2 he => ?_
    obtain ⟨u', e3, e4⟩ := truK_inv e2
    refine EvV.or (ha.ev n env fa X A vars σ u σ1 gd e1) e3 e4 (fun ht => ?_) fun ht => ?_
    · subst ht; exact hb.ev n env fa X A vars σ1 d' σ' gd he
    · subst ht; obtain ⟨rfl, rfl⟩ := pairI (show some (u, σ1) = _ from he); exact ⟨rfl, rfl⟩
  refine ⟨rfl, MX.fuel hE, fun n env fa X A vars σ t' σ' gd h => ?_, MX.plainI (MX.fuel hE) fun _ _ _ => rfl, fun h => falseE h⟩
  cases n with
  | zero => (first | exact noneE h | exact falseE h | exact nomatch h)
  | succ n =>
    refine seqE (show seq1 (trE Δ n a vars) (fun t σ => if t then some (true, σ) else trE Δ n b vars σ) σ = _ from h) fun t σ1 e1 he => ?_
    refine EvB.or (ha.tr n env fa X A vars σ t σ1 gd e1) (fun ht => ?_) fun ht => ?_
    · subst ht; exact hb.tr n env fa X A vars σ1 t' σ' gd he
    · subst ht; obtain ⟨rfl, rfl⟩ := pairI (show some (true, σ1) = _ from he); exact ⟨rfl, rfl⟩
theorem cmpR_ok {nm : Nm} {X : PMap} {fa : List (Option Addr)} {F : FM} {ρ : List (List Addr)} {env : Env} {A : Around} {vars : Vars} {σ : Sto} {s : Shared} {op : CmpOp} {x y : D} {r : Bool} {v u : Value} {Q : Value → Shared → Prop} {Ex : Value → Shared → Prop} (gd : Good 0 A) (nb : NoneBooked c.B) (e : cmpR op x y = some r)
    (w : W c nm X env fa F ρ vars σ s) (r1 : Rd c F ρ s.heap v x) (r2 : Rd c F ρ s.heap u y) (q : Q (.bool r) s) : wpAny (model c.prog c.w) A (compareOp op v u) Q Ex s := by
  have gen : (if x.dep ≤ 50 then cmpD op x y else none) = some r → wpAny (model c.prog c.w) A (compareOp op v u) Q Ex s := fun e => cmpOk gd w.g nb r1 r2 (iteT e).1 (iteT e).2 q
  cases op with
  | In => exact (inOk gd w.g r1 r2 (show inD x y = some r from e)).1 q
  | NotIn => exact mapE (show (inD x y).map (!·) = some r from e) fun t h1 h2 => by subst h2; exact (inOk gd w.g r1 r2 h1).2 q
  | _ => exact gen e
theorem MX.cmp {op : CmpOp} {a b : E} {y z : Expr} {p : Pos} (D : DlOk c C Δ n0) (ha : MX c Δ n0 nm a y) (hb : MX c Δ n0 nm b z) : MX c Δ n0 nm (.cmp op a b) (.Compare y [op] [z] p) := by
  have hE : ∀ n env fa X A vars σ d σ', Good n0 A → evE Δ (n + 1) (.cmp op a b) vars σ = some (d, σ') → ∃ r, d = .bool r ∧ EvV c nm X env fa A (eval (.Compare y [op] [z] p) env) vars σ (.bool r) σ' ∧ EvB c nm X env fa A (isTrue (.Compare y [op] [z] p) env (eval (.Compare y [op] [z] p) env)) vars σ r σ' := fun n env fa X A vars σ d' σ' gd he => by
    refine seqE (show seq1 (evE Δ n a vars) (fun x => seq1 (evE Δ n b vars) (cmpK op x)) σ = _ from he) fun u σ1 e1 he => seqE he fun v σ2 e2 he => bindE he fun u' e3 he => bindE he fun v' e4 he => mapE he fun r e5 e6 => ?_
    obtain ⟨rfl, rfl⟩ := Prod.mk.inj e6
    have g0 := gd.le (Nat.zero_le _)
    exact ⟨r, rfl, EvV.cmp g0 D.nb (ha.ev n env fa X A vars σ u σ1 gd e1) (hb.ev n env fa X A vars σ1 v σ2 gd e2) e3 e4 (fun F ρ s v u Q Ex w r1 r2 q => cmpR_ok g0 D.nb e5 w r1 r2 q) (noMark hb.ok)⟩
  have hV : ∀ n env fa X A vars σ d σ', Good n0 A → evE Δ (n + 1) (.cmp op a b) vars σ = some (d, σ') → EvV c nm X env fa A (eval (.Compare y [op] [z] p) env) vars σ d σ' := fun n env fa X A vars σ d' σ' gd he => by
    obtain ⟨r, rfl, h, _⟩ := hE n env fa X A vars σ d' σ' gd he
    exact h
  refine ⟨rfl, MX.fuel hV, fun n env fa X A vars σ t' σ' gd h => ?_, MX.plainI (MX.fuel hV) fun _ _ _ => rfl, fun h => falseE h⟩
  cases n with
  | zero => (first | exact noneE h | exact falseE h | exact nomatch h)
  | succ n =>
    refine seqE (show seq1 (evE Δ n (.cmp op a b) vars) (fun x σ => (truK x σ).map fun t => (t, σ)) σ = _ from h) fun d σ1 e1 he => ?_
    cases n with
    | zero => (first | exact noneE e1 | exact falseE e1 | exact nomatch e1)
    | succ n =>
      obtain ⟨r, rfl, _, hB⟩ := hE n env fa X A vars σ d σ1 gd e1
      obtain ⟨rfl, rfl⟩ := pairI (show some (r, σ1) = some (t', σ') from he)
      exact hB
theorem MX.ite {a b d : E} {y z u : Expr} {p : Pos} (ha : MX c Δ n0 nm a y) (hb : MX c Δ n0 nm b z) (hd : MX c Δ n0 nm d u) : MX c Δ n0 nm (.ite a b d) (.IfExp y z u p) := by
  have hE : ∀ n env fa X A vars σ v σ', Good n0 A → evE Δ (n + 1) (.ite a b d) vars σ = some (v, σ') → EvV c nm X env fa A (eval (.IfExp y z u p) env) vars σ v σ' := fun n env fa X A vars σ d' σ' gd he => by
    refine seqE (show seq1 (trE Δ n a vars) (fun t σ => if t then evE Δ n b vars σ else evE Δ n d vars σ) σ = _ from he) fun t σ1 e1 he => ?_
    refine EvV.ite (ha.tr n env fa X A vars σ t σ1 gd e1) (fun ht => ?_) fun ht => ?_
    · subst ht; exact hb.ev n env fa X A vars σ1 d' σ' gd he
    · subst ht; exact hd.ev n env fa X A vars σ1 d' σ' gd he
  exact ⟨rfl, MX.fuel hE, fun n env fa X A vars σ t' σ' gd h => by cases n <;> (first | exact noneE h | exact falseE h | exact nomatch h), MX.plainI (MX.fuel hE) fun _ _ _ => rfl, fun h => falseE h⟩
theorem MX.idx {a b : E} {y z : Expr} {p : Pos} (ha : MX c Δ n0 nm a y) (hb : MX c Δ n0 nm b z) : MX c Δ n0 nm (.idx a b) (.Subscript y z p) :=
  .of rfl rfl (fun _ => rfl) (fun _ _ _ => rfl) (fun _ _ _ => rfl) fun n env fa X A vars σ d' σ' gd he => by
    refine seqE (show seq1 (evE Δ n a vars) (fun x => seq1 (evE Δ n b vars) (idxK x)) σ = _ from he) fun u σ1 e1 he => seqE he fun v σ2 e2 he => bindE he fun u' e3 he => mapE he fun z e4 e5 => ?_
    obtain ⟨rfl, rfl⟩ := Prod.mk.inj e5
    exact EvV.idx (ha.ev n env fa X A vars σ u σ1 gd e1) (hb.ev n env fa X A vars σ1 v σ2 gd e2) e3 e4 (subscriptedPlain hb.ok)
theorem MX.attr {a : E} {y : Expr} {z : Str} {k : Nat} {p : Pos} (D : DlOk c C Δ n0) (hb : plainBase y = true) (hk : attrIdx z = some k) (ha : MX c Δ n0 nm a y) : MX c Δ n0 nm (.attr a k) (.Attribute y z p) :=
  .of rfl rfl (fun _ => rfl) (fun _ _ _ => rfl) (fun _ _ _ => rfl) fun n env fa X A vars σ d' σ' gd he => by
    refine seqE (show seq1 (evE Δ n a vars) (attrK k) σ = _ from he) fun u σ1 e1 he => bindE he fun as e2 he => mapE he fun z e4 e5 => ?_
    obtain ⟨rfl, rfl⟩ := Prod.mk.inj e5
    exact EvV.attr D.Z D.cls hb (ha.ev n env fa X A vars σ u σ1 gd e1) e2 hk e4
end
end Ev
end
section
set_option maxRecDepth 100000
set_option autoImplicit false
set_option linter.all false
namespace Ev
open PySem PySem.W PySem.Calls PyProof.Rows PySem.SeqAt

noncomputable def MXs (c : Cx) (Δ : Dl) (n0 : Nat) (nm : Nm) : List E → List Expr → Prop
  | [], xs => xs = []
  | e :: es, xs => ∃ x ys, xs = x :: ys ∧ MX c Δ n0 nm e x ∧ MXs c Δ n0 nm es ys
noncomputable def MO (c : Cx) (Δ : Dl) (n0 : Nat) (nm : Nm) (o : Option E) (x : Option Expr) : Prop := ∀ n env fa X A vars σ i σ', Good n0 A → evO Δ n o vars σ = some (i, σ') → EvO c nm X env fa A (evalPart x env) vars σ i σ'

section
variable {c : Cx} {C : Cc} {Δ : Dl} {n0 : Nat} {nm : Nm}

theorem MXs.star {env : Env} : ∀ {es : List E} {xs : List Expr}, MXs c Δ n0 nm es xs → (starEach xs env).all (!·.1) = true
  | [], xs, h => by
    obtain rfl := (h : xs = [])
    rfl
  | e :: es, xs, h => by
    obtain ⟨x, ys, rfl, h1, h2⟩ := h
    rw [star_cons h1.ok]
    exact MXs.star h2
theorem MXs.ev {env : Env} {fa : List (Option Addr)} {X : PMap} {A : Around} {vars : Vars} {pos : Pos} (gd : Good n0 A) : ∀ {es : List E} {xs : List Expr} {n : Nat} {σ : Sto} {ds : List D} {σ' : Sto}, MXs c Δ n0 nm es xs → evEs Δ n es vars σ = some (ds, σ') → EvL c nm X env fa A (spliced (backTo pos (starEach xs env))) vars σ ds σ'
  | [], xs, 0, σ, ds, σ', h, he => by first | exact noneE he | exact falseE he | exact nomatch he
  | [], xs, n + 1, σ, ds, σ', h, he => by
    obtain rfl := (h : xs = [])
    obtain ⟨rfl, rfl⟩ := pairI (show some ([], σ) = some (ds, σ') from he)
    exact EvL.nil
  | e :: es, xs, 0, σ, ds, σ', h, he => by first | exact noneE he | exact falseE he | exact nomatch he
  | e :: es, xs, n + 1, σ, ds, σ', h, he => by
    obtain ⟨x, ys, rfl, h1, h2⟩ := h
    refine seqE (show seq1 (evE Δ n e vars) (fun d => seq1 (evEs Δ n es vars) fun ds σ => some (d :: ds, σ)) σ = _ from he) fun d σ1 e1 he => seqE he fun ds' σ2 e2 he => ?_
    obtain ⟨rfl, rfl⟩ := pairI he
    exact EvL.cons (star_cons h1.ok) (h1.ev n env fa X A vars σ d σ1 gd e1) (MXs.ev gd h2 e2)
theorem MXs.tests {env : Env} {fa : List (Option Addr)} {X : PMap} {A : Around} {vars : Vars} (gd : Good n0 A) : ∀ {es : List E} {xs : List Expr} {n : Nat} {σ : Sto} {b : Bool} {σ' : Sto}, MXs c Δ n0 nm es xs → tesE Δ n es vars σ = some (b, σ') → EvB c nm X env fa A (testsOf xs env) vars σ b σ'
  | [], xs, 0, σ, ds, σ', h, he => by first | exact noneE he | exact falseE he | exact nomatch he
  | [], xs, n + 1, σ, b, σ', h, he => by
    obtain rfl := (h : xs = [])
    obtain ⟨rfl, rfl⟩ := pairI (show some (true, σ) = some (b, σ') from he)
    exact EvB.tnil
  | e :: es, xs, 0, σ, ds, σ', h, he => by first | exact noneE he | exact falseE he | exact nomatch he
  | e :: es, xs, n + 1, σ, b, σ', h, he => by
    obtain ⟨x, ys, rfl, h1, h2⟩ := h
    refine seqE (show seq1 (trE Δ n e vars) (fun t σ => if t then tesE Δ n es vars σ else some (false, σ)) σ = _ from he) fun t σ1 e1 he => ?_
    refine EvB.tcons (h1.tr n env fa X A vars σ t σ1 gd e1) (fun ht => ?_) fun ht => ?_
    · subst ht; exact MXs.tests gd h2 he
    · subst ht; obtain ⟨rfl, rfl⟩ := pairI (show some (false, σ1) = _ from he); exact ⟨rfl, rfl⟩
theorem MO.none : MO c Δ n0 nm none none := fun n env fa X A vars σ i σ' gd he => by
  cases n with
  | zero => (first | exact noneE he | exact falseE he | exact nomatch he)
  | succ n =>
    obtain ⟨rfl, rfl⟩ := pairI (show some (Option.none, σ) = some (i, σ') from he)
    exact EvO.none
theorem MO.some {e : E} {x : Expr} (h : MX c Δ n0 nm e x) : MO c Δ n0 nm (some e) (some x) := fun n env fa X A vars σ i σ' gd he => by
  cases n with
  | zero => (first | exact noneE he | exact falseE he | exact nomatch he)
  | succ n =>
    refine seqE (show seq1 (evE Δ n e vars) (fun x σ => (intD x).map fun i => (Option.some i, σ)) σ = _ from he) fun d σ1 e1 he => mapE he fun j e2 e3 => ?_
    obtain ⟨rfl, rfl⟩ := Prod.mk.inj e3
    rw [intD_inv e2] at e1
    exact EvO.some (h.ev n env fa X A vars σ _ σ1 gd e1)

theorem MX.tup {es : List E} {xs : List Expr} {k : Nat} {p : Pos} (h : MXs c Δ n0 nm es xs) : MX c Δ n0 nm (.tup es) (.Tuple xs k p) :=
  .of rfl rfl (fun _ => rfl) (fun _ _ _ => rfl) (fun _ _ _ => rfl) fun n env fa X A vars σ d' σ' gd he => by
    refine seqE (show seq1 (evEs Δ n es vars) tupK σ = _ from he) fun ds σ1 e1 he => ?_
    obtain ⟨h1, h2⟩ := iteT he
    obtain ⟨rfl, rfl⟩ := pairI h2
    exact EvV.tup (h.ev gd e1) h1
theorem MX.lst {es : List E} {xs : List Expr} {p : Pos} (h : MXs c Δ n0 nm es xs) : MX c Δ n0 nm (.lst es) (.List xs p) :=
  .of rfl rfl (fun _ => rfl) (fun _ _ _ => rfl) (fun _ _ _ => rfl) fun n env fa X A vars σ d' σ' gd he => by
    refine seqE (show seq1 (evEs Δ n es vars) lstK σ = _ from he) fun ds σ1 e1 he => ?_
    obtain ⟨h1, h2⟩ := iteT he
    by_cases hl : ds.length ≤ 1
    · rw [if_pos hl] at h2
      obtain ⟨rfl, rfl⟩ := pairI h2
      exact EvV.lstLoc (h.ev gd e1) h1
    · rw [if_neg hl] at h2
      obtain ⟨rfl, rfl⟩ := pairI h2
      exact EvV.lst (h.ev gd e1) h1
theorem MX.sli {a : E} {l u s : Option E} {y : Expr} {l' u' s' : Option Expr} {p p' : Pos} (ha : MX c Δ n0 nm a y) (h1 : MO c Δ n0 nm l l') (h2 : MO c Δ n0 nm u u') (h3 : MO c Δ n0 nm s s') : MX c Δ n0 nm (.sli a l u s) (.Subscript y (.Slice l' u' s' p') p) :=
  .of rfl rfl (fun _ => rfl) (fun _ _ _ => rfl) (fun _ _ _ => rfl) fun n env fa X A vars σ d' σ' gd he => by
    refine seqE (show seq1 (evE Δ n a vars) (fun x => seq1 (evO Δ n l vars) fun lo => seq1 (evO Δ n u vars) fun hi => seq1 (evO Δ n s vars) (sliK x lo hi)) σ = _ from he) fun v σ1 e1 he => seqE he fun i1 σ2 e2 he => seqE he fun i2 σ3 e3 he => seqE he fun i3 σ4 e4 he => bindE he fun v' e5 he => mapE he fun z e6 e7 => ?_
    obtain ⟨rfl, rfl⟩ := Prod.mk.inj e7
    exact EvV.sli (ha.ev n env fa X A vars σ v σ1 gd e1) (h1 n env fa X A vars σ1 i1 σ2 gd e2) (h2 n env fa X A vars σ2 i2 σ3 gd e3) (h3 n env fa X A vars σ3 i3 σ4 gd e4) e5 e6
theorem callK_inv {f : Nat} {ds : List D} {d : D} {σ σ' : Sto} (h : callK Δ f ds σ = some (d, σ')) : D.pures ds = true ∧ Δ.fns f ds = some d ∧ σ' = σ := by
  obtain ⟨h1, h2⟩ := iteT h
  refine mapE h2 fun z h3 h4 => ?_
  obtain ⟨rfl, rfl⟩ := Prod.mk.inj h4
  exact ⟨h1, h3, rfl⟩
theorem MX.call {f : Nat} {es : List E} {xs : List Expr} {y : Str} {p p' : Pos} (D : DlOk c C Δ n0) (hg : isGlob nm y = true) (hf : strIdx C.fns y = some f) (h : MXs c Δ n0 nm es xs) : MX c Δ n0 nm (.call f es) (.Call (.Name y p) xs [] p') :=
  .of rfl rfl (fun _ => rfl) (fun _ _ _ => rfl) (fun _ _ _ => rfl) fun n env fa X A vars σ d' σ' gd he => by
    refine seqE (show seq1 (evEs Δ n es vars) (callK Δ f) σ = _ from he) fun ds σ1 e1 he => ?_
    obtain ⟨h1, h2, rfl⟩ := callK_inv he
    obtain ⟨v, q1, q2, q3⟩ := D.fn _ _ hf
    exact EvV.callP D.Z gd hg q1 q2 h.star (h.ev gd e1) q3 h1 h2
theorem MX.mcall {f : Nat} {o : E} {es : List E} {z : Expr} {xs : List Expr} {y : Str} {p p' : Pos} (D : DlOk c C Δ n0) (hg : isGlob nm y = true) (hf : strIdx C.muts y = some f) (ho : MX c Δ n0 nm o z) (h : MXs c Δ n0 nm es xs) : MX c Δ n0 nm (.mcall f o es) (.Call (.Name y p) (z :: xs) [] p') :=
  .of rfl rfl (fun _ => rfl) (fun _ _ _ => rfl) (fun _ _ _ => rfl) fun n env fa X A vars σ d' σ' gd he => by
    refine seqE (show seq1 (evE Δ n o vars) (fun x => seq1 (evEs Δ n es vars) (mcallK Δ f x)) σ = _ from he) fun u σ1 e1 he => seqE he fun ds σ2 e2 he => bindE he fun q e3 he => ?_
    obtain ⟨h1, h2⟩ := iteT he
    refine bindE h2 fun w e4 e5 => ?_
    obtain ⟨rfl, rfl⟩ := pairI e5
    obtain ⟨rfl, e6⟩ := lstAt_inv e3
    obtain ⟨v, q1, q2, q3⟩ := D.mu _ _ hf
    exact EvV.callM D.Z gd hg q1 q2 (MXs.star (es := o :: es) ⟨z, xs, rfl, ho, h⟩) (star_cons ho.ok) (ho.ev n env fa X A vars σ _ σ1 gd e1) (h.ev gd e2) e6 q3 (and2 h1).1 (and2 h1).2 e4
theorem MX.new {a : E} {z : Expr} {y : Str} {p p' : Pos} (D : DlOk c C Δ n0) (hg : isGlob nm y = true) (hy : y = C.cls) (ha : MX c Δ n0 nm a z) : MX c Δ n0 nm (.new a) (.Call (.Name y p) [z] [] p') :=
  .of rfl rfl (fun _ => rfl) (fun _ _ _ => rfl) (fun _ _ _ => rfl) fun n env fa X A vars σ d' σ' gd he => by
    refine seqE (show seq1 (evE Δ n a vars) (newK Δ) σ = _ from he) fun u σ1 e1 he => ?_
    obtain ⟨h1, h2⟩ := iteT he
    refine mapE h2 fun z h3 h4 => ?_
    obtain ⟨rfl, rfl⟩ := Prod.mk.inj h4
    obtain ⟨v, q1, q2, q3⟩ := D.nw
    exact EvV.callNew D.Z gd hg (by rw [hy]; exact q1) q2 (star_cons ha.ok) (ha.ev n env fa X A vars σ u σ1 gd e1) q3 h1 h3
theorem MX.meth {f g : Nat} {o : E} {es : List E} {z : Expr} {xs : List Expr} {m : Str} {ap p : Pos} (D : DlOk c C Δ n0) (hb : plainBase z = true) (hp : (ap.endLine == p.line) = true) (hl : xs.length < 29) (hf : strIdx C.meths m = some g) (hfg : f = methBase + g)
    (ho : MX c Δ n0 nm o z) (h : MXs c Δ n0 nm es xs) : MX c Δ n0 nm (.meth f o es) (.Call (.Attribute z m ap) xs [] p) :=
  .of rfl rfl (fun _ => rfl) (fun _ _ _ => rfl) (fun _ _ _ => rfl) fun n env fa X A vars σ d' σ' gd he => by
    refine seqE (show seq1 (evE Δ n o vars) (fun x => seq1 (evEs Δ n es vars) (methK Δ f x)) σ = _ from he) fun u σ1 e1 he => seqE he fun ds σ2 e2 he => bindE he fun as e3 he => ?_
    obtain ⟨h1, h2, rfl⟩ := callK_inv he
    rw [instD_inv e3] at e1
    obtain ⟨v, q1, q2, q3, q4, q5, q6⟩ := D.me _ _ hf
    exact EvV.callMeth D.Z gd hb hp hl q1 q2 q3 q4 q5 h.star (ho.ev n env fa X A vars σ _ σ1 gd e1) (h.ev gd e2) q6 h1 (by rw [← hfg]; exact h2)
theorem MX.append {o a : E} {z x : Expr} {ap p : Pos} (hb : plainBase z = true) (hp : (ap.endLine == p.line) = true) (ho : MX c Δ n0 nm o z) (ha : MX c Δ n0 nm a x) : MX c Δ n0 nm (.append o a) (.Call (.Attribute z ("append" : Str) ap) [x] [] p) :=
  .of rfl rfl (fun _ => rfl) (fun _ _ _ => rfl) (fun _ _ _ => rfl) fun n env fa X A vars σ d' σ' gd he => by
    refine seqE (show seq1 (evE Δ n o vars) (fun x σ => if isLst σ x then seq1 (evE Δ n a vars) (appK x) σ else none) σ = _ from he) fun u σ1 e1 he => ?_
    obtain ⟨h1, he⟩ := iteT he
    refine seqE he fun v σ2 e2 he => bindE he fun q e3 he => ?_
    obtain ⟨h2, he⟩ := iteT he
    obtain ⟨rfl, rfl⟩ := pairI he
    obtain ⟨rfl, e6⟩ := lstAt_inv e3
    exact EvV.append hb hp (star_cons ha.ok) (ho.ev n env fa X A vars σ _ σ1 gd e1) h1 (ha.ev n env fa X A vars σ1 v σ2 gd e2) e6 h2
theorem MX.pop {o : E} {z : Expr} {ap p : Pos} (hb : plainBase z = true) (hp : (ap.endLine == p.line) = true) (ho : MX c Δ n0 nm o z) : MX c Δ n0 nm (.pop o) (.Call (.Attribute z ("pop" : Str) ap) [] [] p) :=
  .of rfl rfl (fun _ => rfl) (fun _ _ _ => rfl) (fun _ _ _ => rfl) fun n env fa X A vars σ d' σ' gd he => by
    refine seqE (show seq1 (evE Δ n o vars) popK σ = _ from he) fun u σ1 e1 he => bindE he fun q e3 he => ?_
    obtain ⟨h2, he⟩ := iteT he
    refine mapE he fun y h3 h4 => ?_
    obtain ⟨rfl, rfl⟩ := Prod.mk.inj h4
    obtain ⟨rfl, e6⟩ := lstAt_inv e3
    exact EvV.pop hb hp (ho.ev n env fa X A vars σ _ σ1 gd e1) e6 h2 h3
theorem MX.join {o a : E} {z x : Expr} {ap p : Pos} (hb : plainBase z = true) (hp : (ap.endLine == p.line) = true) (ho : MX c Δ n0 nm o z) (ha : MX c Δ n0 nm a x) : MX c Δ n0 nm (.join o a) (.Call (.Attribute z ("join" : Str) ap) [x] [] p) :=
  .of rfl rfl (fun _ => rfl) (fun _ _ _ => rfl) (fun _ _ _ => rfl) fun n env fa X A vars σ d' σ' gd he => by
    refine seqE (show seq1 (evE Δ n o vars) (fun x => seq1 (evE Δ n a vars) (joinK x)) σ = _ from he) fun u σ1 e1 he => seqE he fun v σ2 e2 he => bindE he fun v' e3 he => bindE he fun s e4 he => bindE he fun xs e5 he => bindE he fun t e6 he => ?_
    obtain ⟨h2, he⟩ := iteT he
    obtain ⟨rfl, rfl⟩ := pairI he
    rw [strD_inv e4] at e1
    rw [lstD_inv e5] at e3
    exact EvV.join hb hp (star_cons ha.ok) (ho.ev n env fa X A vars σ _ σ1 gd e1) (ha.ev n env fa X A vars σ1 v σ2 gd e2) e3 e6 h2
theorem listArg_inv {b : Bi} {es : List E} {a : E} (h : listArg b es = some a) : ∃ as, b = .list ∧ es = [a] ∧ a = .bi .range as := by
  cases b with
  | list =>
    match es, h with
    | [.bi .range as], h => cases h; exact ⟨as, rfl, rfl, rfl⟩
  | _ => (first | exact noneE h | exact falseE h | exact nomatch h)
theorem evE_bi {n : Nat} {b : Bi} {es : List E} {vars : Vars} {σ : Sto} {d : D} {σ' : Sto} (h : evE Δ (n + 1) (.bi b es) vars σ = some (d, σ')) :
    (∃ as ds, b = .list ∧ es = [.bi .range as] ∧ itE Δ n (.bi .range as) vars σ = some (ds, σ') ∧ d = .lst ds) ∨ (¬ (b == .sorted && !Δ.srt) = true ∧ seq1 (evEs Δ n es vars) (biK b) σ = some (d, σ')) := by
  have h' : (match listArg b es with | some a => seq1 (itE Δ n a vars) (fun ds σ => some (D.lst ds, σ)) σ | none => if b == .sorted && !Δ.srt then none else seq1 (evEs Δ n es vars) (biK b) σ) = some (d, σ') := h
  match hq : listArg b es, h' with
  | some a, h' =>
    obtain ⟨as, rfl, rfl, rfl⟩ := listArg_inv hq
    refine seqE h' fun ds σ1 e1 e2 => ?_
    obtain ⟨rfl, rfl⟩ := pairI e2
    exact .inl ⟨as, ds, rfl, rfl, e1, rfl⟩
  | none, h' => exact .inr (iteF h')
theorem MX.biV {b : Bi} {es : List E} {xs : List Expr} {y : Str} {p p' : Pos} (D : DlOk c C Δ n0) (hg : isGlob nm y = true) (hy : y = biName b) (h : MXs c Δ n0 nm es xs) (hr : ∀ as, b = .list → es = [.bi .range as] → ∃ y' q q' ys, xs = [.Call (.Name y' q) ys [] q'] ∧ isGlob nm y' = true ∧ y' = biName .range ∧ MXs c Δ n0 nm as ys)
    {n : Nat} {env : Env} {fa : List (Option Addr)} {X : PMap} {A : Around} {vars : Vars} {σ : Sto} {d : Ev.D} {σ' : Sto} (gd : Good n0 A) (he : evE Δ (n + 1) (.bi b es) vars σ = some (d, σ')) : EvV c nm X env fa A (eval (.Call (.Name y p) xs [] p') env) vars σ d σ' := by
  rcases evE_bi he with ⟨as, ds, rfl, rfl, h1, rfl⟩ | ⟨h1, h2⟩
  · obtain ⟨y', q, q', ys, rfl, h2, h3, h4⟩ := hr as rfl rfl
    cases n with
    | zero => (first | exact noneE h1 | exact falseE h1 | exact nomatch h1)
    | succ n =>
      refine seqE (show seq1 (evEs Δ n as vars) rangeK σ = _ from h1) fun vs σ1 e1 he => mapE he fun r e2 e3 => ?_
      obtain ⟨rfl, rfl⟩ := Prod.mk.inj e3
      exact EvV.listRange gd.hh D.Z D.N hg hy h2 h3 (star_cons rfl) h4.star (h4.ev gd e1) (a := r.1) (b := r.2) e2
  · refine seqE h2 fun ds σ1 e1 he => bindE he fun xs' e2 he => mapE he fun z e3 e4 => ?_
    obtain ⟨rfl, rfl⟩ := Prod.mk.inj e4
    refine EvV.bi gd.hh (gd.le (Nat.zero_le _)) D.Z D.N (fun hb => D.srt ?_) hg hy h.star (h.ev gd e1) e2 e3
    cases q : Δ.srt with
    | true => rfl
    | false => rw [hb, q] at h1; exact absurd rfl h1
end
end Ev
end
section
set_option maxRecDepth 100000
set_option autoImplicit false
set_option linter.all false
namespace Ev
open PySem PySem.W PySem.Calls PyProof.Rows PySem.SeqAt

section
variable {c : Cx} {C : Cc} {Δ : Dl} {n0 : Nat} {nm : Nm}

theorem MXs.one {a : E} {xs : List Expr} (h : MXs c Δ n0 nm [a] xs) : ∃ x, xs = [x] ∧ MX c Δ n0 nm a x := by
  obtain ⟨x, ys, rfl, h1, h2⟩ := h
  obtain rfl := (h2 : ys = [])
  exact ⟨x, rfl, h1⟩
theorem MXs.two {a b : E} {xs : List Expr} (h : MXs c Δ n0 nm [a, b] xs) : ∃ x y, xs = [x, y] ∧ MX c Δ n0 nm a x ∧ MX c Δ n0 nm b y := by
  obtain ⟨x, ys, rfl, h1, h2⟩ := h
  obtain ⟨y, rfl, h3⟩ := h2.one
  exact ⟨x, y, rfl, h1, h3⟩
theorem itOk_tup {b : Bi} {es : List E} {T : Ev.T} {t : Expr} {nm' : Nm} (hb : b = .enumerate ∨ b = .zip) (h : itOk (.bi b es) T = true) (ht : isT nm' T t = true) : ∃ el k p, t = .Tuple el k p := by
  cases T with
  | tup is => obtain ⟨el, k, p, rfl, _⟩ := isT_tup ht; exact ⟨el, k, p, rfl⟩
  | var i => rcases hb with rfl | rfl <;> (first | exact noneE h | exact falseE h | exact nomatch h)
/-- a built-in that is walked over -/
theorem MX.biI {b : Bi} {es : List E} {xs : List Expr} {y : Str} {p p' : Pos} (D : DlOk c C Δ n0) (hg : isGlob nm y = true) (hy : y = biName b) (h : MXs c Δ n0 nm es xs)
    (hE : ∀ n env fa X A vars σ d σ', Good n0 A → evE Δ n (.bi b es) vars σ = some (d, σ') → EvV c nm X env fa A (eval (.Call (.Name y p) xs [] p') env) vars σ d σ') :
    ∀ n nm' t T env fa X A vars σ ds σ', Good n0 A → isT nm' T t = true → itOk (.bi b es) T = true → itE Δ n (.bi b es) vars σ = some (ds, σ') → EvI c nm X env fa A t (.Call (.Name y p) xs [] p') vars σ ds σ' ∧ ds.length ≤ maxLen := by
  intro n nm' t T env fa X A vars σ ds σ' gd ht hk he
  have plain : PlainI Δ (.bi b es) → EvI c nm X env fa A t (.Call (.Name y p) xs [] p') vars σ ds σ' ∧ ds.length ≤ maxLen := fun hi => MX.plainI hE hi n nm' t T env fa X A vars σ ds σ' gd ht hk he
  cases b with
  | range =>
    cases n with
    | zero => (first | exact noneE he | exact falseE he | exact nomatch he)
    | succ n =>
      refine seqE (show seq1 (evEs Δ n es vars) rangeK σ = _ from he) fun vs σ1 e1 he => mapE he fun r e2 e3 => ?_
      obtain ⟨rfl, rfl⟩ := Prod.mk.inj e3
      refine ⟨EvI.range gd.hh D.Z D.N hg hy h.star (h.ev gd e1) (a := r.1) (b := r.2) e2, ?_⟩
      unfold rangeD
      rw [List.length_map, List.length_range]
      exact (rangeOf_inv (a := r.1) (b := r.2) e2).2.2.1
  | enumerate =>
    cases n with
    | zero => (first | exact noneE he | exact falseE he | exact nomatch he)
    | succ n =>
      obtain ⟨el, k, q, rfl⟩ := itOk_tup (.inl rfl) hk ht
      match es, h, he with
      | [], h, he => (first | exact noneE he | exact falseE he | exact nomatch he)
      | _ :: _ :: _, h, he => (first | exact noneE he | exact falseE he | exact nomatch he)
      | [a], h, he =>
        obtain ⟨x, rfl, h1⟩ := h.one
        refine seqE (show seq1 (evE Δ n a vars) enumK σ = _ from he) fun u σ1 e1 he => bindE he fun r e2 he => bindE he fun us e3 he => ?_
        obtain ⟨h2, he⟩ := iteT he
        obtain ⟨rfl, rfl⟩ := pairI he
        refine ⟨EvI.enum gd.hh D.Z D.N hg hy (star_cons h1.ok) (h1.ev n env fa X A vars σ u σ1 gd e1) (by rw [← lstD_inv e3]; exact e2), by rw [enumD_len]; exact h2⟩
  | zip =>
    cases n with
    | zero => (first | exact noneE he | exact falseE he | exact nomatch he)
    | succ n =>
      obtain ⟨el, k, q, rfl⟩ := itOk_tup (.inr rfl) hk ht
      match es, h, he with
      | [], h, he => (first | exact noneE he | exact falseE he | exact nomatch he)
      | [_], h, he => (first | exact noneE he | exact falseE he | exact nomatch he)
      | _ :: _ :: _ :: _, h, he => (first | exact noneE he | exact falseE he | exact nomatch he)
      | [a, b], h, he =>
        obtain ⟨x, x2, rfl, h1, h2⟩ := h.two
        refine seqE (show seq1 (evE Δ n a vars) (fun x σ => (Ev.frz σ x).bind fun p => seq1 (evE Δ n b vars) (zipK p.1) p.2) σ = _ from he) fun u σ1 e1 he => bindE he fun r e2 he => seqE he fun v σ3 e3 he => bindE he fun r2 e4 he => bindE he fun us e5 he => bindE he fun vs e6 he => ?_
        obtain ⟨h3, he⟩ := iteT he
        obtain ⟨rfl, rfl⟩ := pairI he
        refine ⟨EvI.zip gd.hh D.Z D.N hg hy (star_cons h1.ok) (star_cons h2.ok) (h1.ev n env fa X A vars σ u σ1 gd e1) (by rw [← lstD_inv e5]; exact e2) (h2.ev n env fa X A vars r.2 v σ3 gd e3) (by rw [← lstD_inv e6]; exact e4), by rw [zipD_len]; exact Nat.le_trans (Nat.min_le_left ..) h3.1⟩
  | _ => exact plain fun _ _ _ => rfl
theorem MX.bi {b : Bi} {es : List E} {xs : List Expr} {y : Str} {p p' : Pos} (D : DlOk c C Δ n0) (hg : isGlob nm y = true) (hy : y = biName b) (h : MXs c Δ n0 nm es xs)
    (hr : ∀ as, b = .list → es = [.bi .range as] → ∃ y' q q' ys, xs = [.Call (.Name y' q) ys [] q'] ∧ isGlob nm y' = true ∧ y' = biName .range ∧ MXs c Δ n0 nm as ys) : MX c Δ n0 nm (.bi b es) (.Call (.Name y p) xs [] p') := by
  have hE := MX.fuel (c := c) (nm := nm) (n0 := n0) (x := .Call (.Name y p) xs [] p') fun n env fa X A vars σ d σ' gd he => MX.biV D hg hy h hr (n := n) (env := env) (fa := fa) (X := X) gd he
  exact ⟨rfl, hE, MX.plainB hE (fun _ => rfl) fun _ _ _ => rfl, MX.biI D hg hy h hE, fun h => falseE h⟩

theorem evE_compI {ini : List (Option Nat)} {elt it : E} {T : Ev.T} {ifs : List E} {n : Nat} {vars : Vars} {σ σ' : Sto} {d : D} (h : evE Δ (n + 1) (.comp ini elt T it ifs) vars σ = some (d, σ')) :
    ∃ ds σ1 rs, itE Δ n it vars σ = some (ds, σ1) ∧ capOk vars ini = true ∧ ds.length ≤ maxLen ∧ compD (turnD T (fun vs σ => tesE Δ n ifs vs σ) (fun vs σ => evE Δ n elt vs σ)) ds (capture vars ini) σ1 = some (rs, σ') ∧ d = .lst rs := by
  refine seqE (show seq1 (itE Δ n it vars) (fun ds σ => if capOk vars ini && decide (ds.length ≤ maxLen) then (compD (turnD T (fun vs σ => tesE Δ n ifs vs σ) (fun vs σ => evE Δ n elt vs σ)) ds (capture vars ini) σ).map fun p => (D.lst p.1, p.2) else none) σ = _ from h) fun ds σ1 e1 he => ?_
  obtain ⟨h1, he⟩ := iteT he
  refine mapE he fun q e2 e3 => ?_
  obtain ⟨rfl, rfl⟩ := Prod.mk.inj e3
  exact ⟨ds, σ1, q.1, e1, (and2 h1).1, of_decide_eq_true (and2 h1).2, e2, rfl⟩
theorem MX.comp {ini : List (Option Nat)} {elt it : E} {T : Ev.T} {ifs : List E} {elt' t' it' : Expr} {ifs' : List Expr} {sc : Scope} {p : Pos} (hsc : scopeOk sc = true) (hini : iniOf nm sc.names = some ini) (ht : isT sc.names T t' = true) (hk : itOk it T = true)
    (hi : MX c Δ n0 nm it it') (hf : MXs c Δ n0 sc.names ifs ifs') (he : MX c Δ n0 sc.names elt elt') : MX c Δ n0 nm (.comp ini elt T it ifs) (.ListComp elt' [⟨t', it', ifs', 0⟩] sc p) := by
  have hE := MX.fuel (c := c) (nm := nm) (n0 := n0) (x := .ListComp elt' [⟨t', it', ifs', 0⟩] sc p) (e := .comp ini elt T it ifs) (Δ := Δ) fun n env fa X A vars σ d σ' gd h => by
    obtain ⟨ds, σ1, rs, h1, h2, h3, h4, rfl⟩ := evE_compI h
    exact EvV.comp gd.hh hsc hini ht (noFold hi.ok) (hi.it n _ _ _ env fa X A vars σ ds σ1 gd ht hk h1).1 h2 h3 (fun env' fa' X' vars σ b σ' h => hf.tests gd h) (fun env' fa' X' vars σ d σ' h => he.ev n env' fa' X' A vars σ d σ' gd h) h4
  refine ⟨rfl, hE, MX.plainB hE (fun _ => rfl) fun _ _ _ => rfl, MX.plainI hE fun _ _ _ => rfl, fun _ n env fa X A vars σ d σ' gd h => ?_⟩
  cases n with
  | zero => (first | exact noneE h | exact falseE h | exact nomatch h)
  | succ n =>
    obtain ⟨ds, σ1, rs, h1, h2, h3, h4, rfl⟩ := evE_compI h
    exact EvU.comp gd.hh hsc hini ht (noFold hi.ok) (hi.it n _ _ _ env fa X A vars σ ds σ1 gd ht hk h1).1 h2 h3 (fun env' fa' X' vars σ b σ' h => hf.tests gd h) (fun env' fa' X' vars σ d σ' h => he.ev n env' fa' X' A vars σ d σ' gd h) h4
end
end Ev
end
section
set_option maxRecDepth 100000
set_option autoImplicit false
set_option linter.all false
namespace Ev
open PySem PySem.W PySem.Calls PyProof.Rows PySem.SeqAt

/-! the trees, seen -/
section
variable {C : Cc} {nm : Nm} {f g h : Expr → Bool} {fs : List Expr → Bool} {x : Expr} {P : Expr → Prop}
theorem constIs {k : Const} {d d' : D} (e : compConst k = some d') (h : D.beq d' d = true) : compConst k = some d := by
  rw [e]
  cases k with
  | none => cases e; cases d <;> first | rfl | exact falseE h
  | bool b => cases e; cases d <;> first | exact congrArg (fun z => some (D.bool z)) (eq_of_beq h) | exact falseE h
  | int b => cases e; cases d <;> first | exact congrArg (fun z => some (D.int z)) (eq_of_beq h) | exact falseE h
  | float b => cases e; cases d <;> first | exact congrArg (fun z => some (D.flt z)) (eq_of_beq h) | exact falseE h
  | str b => cases e; cases d <;> first | exact congrArg (fun z => some (D.str z)) (eq_of_beq h) | exact falseE h
  | _ => exact noneE e
theorem isLit_e {d : D} (e : isLit C nm d x = true) (k : ∀ k n p, compConst k = some d → P (.Constant k n p)) (k2 : ∀ y p z p' t, isGlob nm y = true → (y == C.cls) = true → C.cattrs.lookup z = some t → d = .str t → P (.Attribute (.Name y p) z p')) : P x := by
  cases x with
  | Constant c n p =>
    have e : (match compConst c with | some d' => D.beq d' d | none => false) = true := e
    match hq : compConst c, e with
    | some d', e => exact k c n p (constIs hq e)
  | Attribute o z p' =>
    cases o with
    | Name y p =>
      have h := and2 (show (isGlob nm y && y == C.cls && (match (generalizing := false) C.cattrs.lookup z, d with | some s, .str s' => s == s' | _, _ => false)) = true from e)
      have h2 := h.2
      match hq : C.cattrs.lookup z, d, h2 with
      | some t, .str s, h2 => exact k2 y p z p' t (and2 h.1).1 (and2 h.1).2 hq (by rw [eq_of_beq h2])
    | _ => exact falseE e
  | _ => exact falseE e
theorem isVar_e {i : Nat} (e : isVar nm i x = true) (k : ∀ y p, compVar nm y = some i → P (.Name y p)) : P x := by
  cases x with
  | Name y p => exact k y p (eq_of_beq e)
  | _ => exact falseE e
theorem isBin_e {op : Operator} (e : isBin op f g x = true) (k : ∀ a b p, f a = true → g b = true → P (.BinOp a op b p)) : P x := by
  cases x with
  | BinOp a o b p =>
    have h := and2 (show (decide (o = op) && (f a && g b)) = true from e)
    exact of_decide_eq_true h.1 ▸ k a b p (and2 h.2).1 (and2 h.2).2
  | _ => exact falseE e
theorem isRep_e (e : isRep f g x = true) (k : ∀ a b p' p, f a = true → g b = true → P (.BinOp (.List [a] p') .Mult b p)) : P x := by
  cases x with
  | BinOp a o b p =>
    cases a with
    | List es p' =>
      cases es with
      | nil => exact falseE e
      | cons a es =>
      cases es with
      | cons a2 es => exact falseE e
      | nil =>
        have h := and2 (show (decide (o = .Mult) && (f a && g b)) = true from e)
        exact (of_decide_eq_true h.1).symm ▸ k a b p' p (and2 h.2).1 (and2 h.2).2
    | _ => exact falseE e
  | _ => exact falseE e
theorem isUn_e {op : UnaryOp} (e : isUn op f x = true) (k : ∀ a p, f a = true → P (.UnaryOp op a p)) : P x := by
  cases x with
  | UnaryOp o a p =>
    have h := and2 (show (decide (o = op) && f a) = true from e)
    exact of_decide_eq_true h.1 ▸ k a p h.2
  | _ => exact falseE e
theorem isBool_e {op : BoolOp} (e : isBool op f g x = true) (k : ∀ a b p, f a = true → g b = true → P (.BoolOp op [a, b] p)) : P x := by
  cases x with
  | BoolOp o es p =>
    cases es with
    | nil => exact falseE e
    | cons a es =>
    cases es with
    | nil => exact falseE e
    | cons b es =>
    cases es with
    | cons b2 es => exact falseE e
    | nil =>
      have h := and2 (show (decide (o = op) && (f a && g b)) = true from e)
      exact of_decide_eq_true h.1 ▸ k a b p (and2 h.2).1 (and2 h.2).2
  | _ => exact falseE e
theorem isCmp_e {op : CmpOp} (e : isCmp op f g x = true) (k : ∀ a b p, f a = true → g b = true → P (.Compare a [op] [b] p)) : P x := by
  cases x with
  | Compare a os bs p =>
    cases os with
    | nil => exact falseE e
    | cons o os =>
    cases os with
    | cons o2 os => exact falseE e
    | nil =>
    cases bs with
    | nil => exact falseE e
    | cons b bs =>
    cases bs with
    | cons b2 bs => exact falseE e
    | nil =>
      have h := and2 (show (decide (o = op) && (f a && g b)) = true from e)
      exact of_decide_eq_true h.1 ▸ k a b p (and2 h.2).1 (and2 h.2).2
  | _ => exact falseE e
theorem isIf_e (e : isIf f g h x = true) (k : ∀ a b d p, f a = true → g b = true → h d = true → P (.IfExp a b d p)) : P x := by
  cases x with
  | IfExp a b d p =>
    have q := and2 (show (f a && (g b && h d)) = true from e)
    exact k a b d p q.1 (and2 q.2).1 (and2 q.2).2
  | _ => exact falseE e
theorem isTup_e (e : isTup fs x = true) (k : ∀ es n p, fs es = true → P (.Tuple es n p)) : P x := by
  cases x with
  | Tuple es n p => exact k es n p e
  | _ => exact falseE e
theorem isLst'_e (e : isLst' fs x = true) (k : ∀ es p, fs es = true → P (.List es p)) : P x := by
  cases x with
  | List es p => exact k es p e
  | _ => exact falseE e
theorem isIdx_e (e : isIdx f g x = true) (k : ∀ a b p, f a = true → g b = true → P (.Subscript a b p)) : P x := by
  cases x with
  | Subscript a b p => exact k a b p (and2 e).1 (and2 e).2
  | _ => exact falseE e
theorem isSli_e {g1 g2 g3 : Option Expr → Bool} (e : isSli f g1 g2 g3 x = true) (k : ∀ a l u s p' p, f a = true → g1 l = true → g2 u = true → g3 s = true → P (.Subscript a (.Slice l u s p') p)) : P x := by
  cases x with
  | Subscript a b p =>
    cases b with
    | Slice l u s p' =>
      have q := and2 (show (f a && (g1 l && (g2 u && g3 s))) = true from e)
      have q2 := and2 q.2
      exact k a l u s p' p q.1 q2.1 (and2 q2.2).1 (and2 q2.2).2
    | _ => exact falseE e
  | _ => exact falseE e
theorem isAttr_e {i : Nat} (e : isAttr i f x = true) (k : ∀ a y p, plainBase a = true → attrIdx y = some i → f a = true → P (.Attribute a y p)) : P x := by
  cases x with
  | Attribute a y p =>
    have q := and2 (show (plainBase a && (attrIdx y == some i && f a)) = true from e)
    exact k a y p q.1 (eq_of_beq (and2 q.2).1) (and2 q.2).2
  | _ => exact falseE e
theorem isMeth_e {m : Str → Bool} (e : isMeth m f fs x = true) (k : ∀ o y ap args p, plainBase o = true → (ap.endLine == p.line) = true → args.length < 29 → m y = true → f o = true → fs args = true → P (.Call (.Attribute o y ap) args [] p)) : P x := by
  cases x with
  | Call o args ks p =>
    cases o with
    | Attribute o y ap =>
      cases ks with
      | nil =>
        have q := and2 (show ((plainBase o && ap.endLine == p.line) && (decide (args.length < 29) && (m y && (f o && fs args)))) = true from e)
        have q2 := and2 q.2
        have q3 := and2 q2.2
        exact k o y ap args p (and2 q.1).1 (and2 q.1).2 (of_decide_eq_true q2.1) q3.1 (and2 q3.2).1 (and2 q3.2).2
      | cons k ks => exact falseE e
    | _ => exact falseE e
  | _ => exact falseE e
theorem isCall_e {q : Str → Bool} (e : isCall nm q fs x = true) (k : ∀ y p' args p, isGlob nm y = true → q y = true → fs args = true → P (.Call (.Name y p') args [] p)) : P x := by
  cases x with
  | Call o args ks p =>
    cases o with
    | Name y p' =>
      cases ks with
      | nil =>
        have h := and2 (show (isGlob nm y && (q y && fs args)) = true from e)
        exact k y p' args p h.1 (and2 h.2).1 (and2 h.2).2
      | cons k ks => exact falseE e
    | _ => exact falseE e
  | _ => exact falseE e
theorem isComp_e {ini : List (Option Nat)} {T : Ev.T} {fif : Nm → List Expr → Bool} {felt : Nm → Expr → Bool} {iok : Bool} (e : isComp nm ini T f fif felt iok x = true) (k : ∀ elt t it ifs sc p, scopeOk sc = true → iok = true →
    iniOf nm sc.names = some ini → isT sc.names T t = true → f it = true → fif sc.names ifs = true → felt sc.names elt = true → P (.ListComp elt [⟨t, it, ifs, 0⟩] sc p)) : P x := by
  cases x with
  | ListComp elt gs sc p =>
    cases gs with
    | nil => exact falseE e
    | cons g gs =>
    cases g with
    | mk t it ifs n =>
    cases gs with
    | cons g2 gs => exact falseE e
    | nil =>
      have h := and2 (show ((decide (n = 0) && scopeOk sc) && (iok && ((iniOf nm sc.names == some ini && isT sc.names T t) && (f it && (fif sc.names ifs && felt sc.names elt))))) = true from e)
      have h2 := and2 h.2
      have h3 := and2 h2.2
      have h4 := and2 h3.2
      exact (of_decide_eq_true (and2 h.1).1).symm ▸ k elt t it ifs sc p (and2 h.1).2 h2.1 (eq_of_beq (and2 h3.1).1) (and2 h3.1).2 h4.1 (and2 h4.2).1 (and2 h4.2).2
  | _ => exact falseE e
end

section
variable {c : Cx} {C : Cc} {Δ : Dl} {n0 : Nat}
structure Chk (c : Cx) (C : Cc) (Δ : Dl) (n0 n : Nat) : Prop where
  e : ∀ e nm x, chkE C n e nm x = true → MX c Δ n0 nm e x
  s : ∀ es nm xs, chkEs C n es nm xs = true → MXs c Δ n0 nm es xs
  o : ∀ o nm x, chkO C n o nm x = true → MO c Δ n0 nm o x
theorem chkEs_ok {n : Nat} (ih : Chk c C Δ n0 n) : ∀ es nm xs, chkEs C (n + 1) es nm xs = true → MXs c Δ n0 nm es xs := by
  intro es nm xs h
  cases es with
  | nil => cases xs with
    | nil => exact rfl
    | cons x xs => exact falseE h
  | cons e es => cases xs with
    | nil => exact falseE h
    | cons x xs =>
      have h := and2 (show (chkE C n e nm x && chkEs C n es nm xs) = true from h)
      exact ⟨x, xs, rfl, ih.e _ _ _ h.1, ih.s _ _ _ h.2⟩
theorem chkO_ok {n : Nat} (ih : Chk c C Δ n0 n) : ∀ o nm x, chkO C (n + 1) o nm x = true → MO c Δ n0 nm o x := by
  intro o nm x h
  cases o with
  | none => cases x with
    | none => exact MO.none
    | some x => exact falseE h
  | some e => cases x with
    | none => exact falseE h
    | some x => exact MO.some (ih.e e nm x h)
noncomputable def RangeArg (c : Cx) (Δ : Dl) (n0 : Nat) (nm : Nm) (as : List E) (xs : List Expr) : Prop := ∃ y' q q' ys, xs = [.Call (.Name y' q) ys [] q'] ∧ isGlob nm y' = true ∧ y' = biName .range ∧ MXs c Δ n0 nm as ys
theorem rangeArg {n : Nat} (ih : ∀ m, m ≤ n → Chk c C Δ n0 m) {nm : Nm} {as : List E} {xs : List Expr} (h : chkEs C n [.bi .range as] nm xs = true) : RangeArg c Δ n0 nm as xs := by
  cases n with
  | zero => exact falseE h
  | succ n =>
    cases xs with
    | nil => exact falseE h
    | cons x xs =>
      have h := and2 (show (chkE C n (.bi .range as) nm x && chkEs C n [] nm xs) = true from h)
      rw [show xs = [] from (ih n (Nat.le_succ n)).s [] nm xs h.2]
      have h1 := h.1
      cases n with
      | zero => exact falseE h1
      | succ n =>
        exact isCall_e (P := fun x => RangeArg c Δ n0 nm as [x]) (and2 (show (okX x && isCall nm (fun y => y == biName .range) (chkEs C n as nm) x) = true from h1)).2 fun y p' args p h4 h5 h6 =>
          ⟨y, p', p, args, rfl, h4, eq_of_beq h5, (ih n (Nat.le_trans (Nat.le_succ n) (Nat.le_succ _))).s _ _ _ h6⟩
theorem chkE_ok (D : DlOk c C Δ n0) {n : Nat} (ihs : ∀ m, m ≤ n → Chk c C Δ n0 m) : ∀ e nm x, chkE C (n + 1) e nm x = true → MX c Δ n0 nm e x := by
  intro e nm x h
  have ih := ihs n (Nat.le_refl n)
  have h := (and2 (show (okX x && _) = true from h)).2
  cases e with
  | lit d => exact isLit_e h (fun k n p h1 => .const D h1) fun y p z p' t h1 h2 h3 h4 => h4 ▸ .cat D h1 h2 h3
  | var i => exact isVar_e h fun y p h1 => .var h1
  | bin op a b => exact isBin_e h fun y z p h1 h2 => .bin D (ih.e _ _ _ h1) (ih.e _ _ _ h2)
  | rep a b => exact isRep_e h fun y z p' p h1 h2 => .rep (ih.e _ _ _ h1) (ih.e _ _ _ h2)
  | neg a => exact isUn_e h fun y p h1 => .neg (ih.e _ _ _ h1)
  | not a => exact isUn_e h fun y p h1 => .not (ih.e _ _ _ h1)
  | both a b => exact isBool_e h fun y z p h1 h2 => .both (ih.e _ _ _ h1) (ih.e _ _ _ h2)
  | either a b => exact isBool_e h fun y z p h1 h2 => .either (ih.e _ _ _ h1) (ih.e _ _ _ h2)
  | cmp op a b => exact isCmp_e h fun y z p h1 h2 => .cmp D (ih.e _ _ _ h1) (ih.e _ _ _ h2)
  | ite a b d => exact isIf_e h fun y z u p h1 h2 h3 => .ite (ih.e _ _ _ h1) (ih.e _ _ _ h2) (ih.e _ _ _ h3)
  | tup es => exact isTup_e h fun xs k p h1 => .tup (ih.s _ _ _ h1)
  | lst es => exact isLst'_e h fun xs p h1 => .lst (ih.s _ _ _ h1)
  | idx a b => exact isIdx_e h fun y z p h1 h2 => .idx (ih.e _ _ _ h1) (ih.e _ _ _ h2)
  | sli a l u s => exact isSli_e h fun y l' u' s' p' p h1 h2 h3 h4 => .sli (ih.e _ _ _ h1) (ih.o _ _ _ h2) (ih.o _ _ _ h3) (ih.o _ _ _ h4)
  | attr a k => exact isAttr_e h fun y z p h1 h2 h3 => .attr D h1 h2 (ih.e _ _ _ h3)
  | call f es => exact isCall_e h fun y p' args p h1 h2 h3 => .call D h1 (eq_of_beq h2) (ih.s _ _ _ h3)
  | mcall f o es =>
    exact isCall_e h fun y p' args p h1 h2 h3 => by
      obtain ⟨z, xs, rfl, h4, h5⟩ := ih.s _ _ _ h3
      exact .mcall D h1 (eq_of_beq h2) h4 h5
  | meth f o es => exact isMeth_e h fun z m ap args p h1 h2 h3 h4 h5 h6 => mapE (eq_of_beq h4) fun g h7 h8 => .meth D h1 h2 h3 h7 h8.symm (ih.e _ _ _ h5) (ih.s _ _ _ h6)
  | new a =>
    exact isCall_e h fun y p' args p h1 h2 h3 => by
      obtain ⟨z, rfl, h4⟩ := (ih.s _ _ _ h3).one
      exact .new D h1 (eq_of_beq h2) h4
  | bi b es => exact isCall_e h fun y p' args p h1 h2 h3 => .bi D h1 (eq_of_beq h2) (ih.s _ _ _ h3) fun as _ he => rangeArg ihs (by rw [← he]; exact h3)
  | append o a =>
    exact isMeth_e h fun z m ap args p h1 h2 h3 h4 h5 h6 => by
      rw [eq_of_beq h4]
      obtain ⟨x, rfl, h7⟩ := (ih.s _ _ _ h6).one
      exact .append h1 h2 (ih.e _ _ _ h5) h7
  | pop o =>
    exact isMeth_e h fun z m ap args p h1 h2 h3 h4 h5 h6 => by
      rw [eq_of_beq h4, show args = [] from ih.s _ _ _ h6]
      exact .pop h1 h2 (ih.e _ _ _ h5)
  | join o a =>
    exact isMeth_e h fun z m ap args p h1 h2 h3 h4 h5 h6 => by
      rw [eq_of_beq h4]
      obtain ⟨x, rfl, h7⟩ := (ih.s _ _ _ h6).one
      exact .join h1 h2 (ih.e _ _ _ h5) h7
  | comp ini elt t it ifs => exact isComp_e h fun elt' t' it' ifs' sc p h1 h2 h3 h4 h5 h6 h7 => .comp h1 h3 h4 h2 (ih.e _ _ _ h5) (ih.s _ _ _ h6) (ih.e _ _ _ h7)
  | _ => exact falseE h
theorem chk_ok (D : DlOk c C Δ n0) : ∀ n, Chk c C Δ n0 n := by
  intro n
  induction n using Nat.strongRecOn with
  | _ n ih =>
    cases n with
    | zero => exact ⟨fun e nm x h => falseE h, fun e nm x h => falseE h, fun e nm x h => falseE h⟩
    | succ n =>
      have ihs : ∀ m, m ≤ n → Chk c C Δ n0 m := fun m hm => ih m (Nat.lt_succ_of_le hm)
      exact ⟨chkE_ok D ihs, chkEs_ok (ihs n (Nat.le_refl n)), chkO_ok (ihs n (Nat.le_refl n))⟩
end
end Ev
end
section
set_option maxRecDepth 100000
set_option autoImplicit false
set_option linter.all false
namespace Ev
open PySem PySem.W PySem.Calls PyProof.Rows PySem.SeqAt

section
variable {nm : Nm} {f g h : Expr → Bool} {fs gs : List Stmt → Bool} {ft : List Expr → Bool} {x : Stmt} {P : Stmt → Prop}
theorem isAsg_e (e : isAsg ft f x = true) (k : ∀ ts v p, asgOk v = true → ft ts = true → f v = true → P (.Assign ts v p)) : P x := by
  cases x with
  | Assign ts v p =>
    have q := and2 (show (asgOk v && (ft ts && f v)) = true from e)
    exact k ts v p q.1 (and2 q.2).1 (and2 q.2).2
  | _ => exact falseE e
theorem one_e {ts : List Expr} {R : List Expr → Bool} {Q : List Expr → Prop} (e : R ts = true) (h0 : R [] = false) (h2 : ∀ a b r, R (a :: b :: r) = false) (k : ∀ t, R [t] = true → Q [t]) : Q ts := by
  cases ts with
  | nil => rw [h0] at e; exact falseE e
  | cons t ts => cases ts with
    | nil => exact k t e
    | cons t2 ts => rw [h2] at e; exact falseE e
theorem isSetAttr_e {i : Nat} (e : isSetAttr i f g x = true) (k : ∀ o y p v p', attrIdx y = some i → f o = true → g v = true → P (.Assign [.Attribute o y p] v p')) : P x := by
  cases x with
  | Assign ts v p' =>
    cases ts with
    | nil => exact falseE e
    | cons t ts =>
      cases t with
      | Attribute o y p =>
        cases ts with
        | nil =>
          have q := and2 (show (attrIdx y == some i && (f o && g v)) = true from e)
          exact k o y p v p' (eq_of_beq q.1) (and2 q.2).1 (and2 q.2).2
        | cons t2 ts => exact falseE e
      | _ => exact falseE e
  | _ => exact falseE e
theorem isSetIdx_e (e : isSetIdx f g h x = true) (k : ∀ o i p v p', f o = true → g i = true → h v = true → P (.Assign [.Subscript o i p] v p')) : P x := by
  cases x with
  | Assign ts v p' =>
    cases ts with
    | nil => exact falseE e
    | cons t ts =>
      cases t with
      | Subscript o i p =>
        cases ts with
        | nil =>
          have q := and2 (show (f o && (g i && h v)) = true from e)
          exact k o i p v p' q.1 (and2 q.2).1 (and2 q.2).2
        | cons t2 ts => exact falseE e
      | _ => exact falseE e
  | _ => exact falseE e
theorem isExpr_e (e : isExpr f x = true) (k : ∀ a b d p p', f (.Call a b d p) = true → P (.Expr (.Call a b d p) p')) : P x := by
  cases x with
  | Expr y p' =>
    cases y with
    | Call a b d p => exact k a b d p p' e
    | _ => exact falseE e
  | _ => exact falseE e
theorem isRet_e (e : isRet f x = true) (k : ∀ v p, f v = true → P (.Return (some v) p)) : P x := by
  cases x with
  | Return o p =>
    cases o with
    | some v => exact k v p e
    | none => exact falseE e
  | _ => exact falseE e
theorem isIfS_e (e : isIfS f fs gs x = true) (k : ∀ c a b p, f c = true → fs a = true → gs b = true → P (.If c a b p)) : P x := by
  cases x with
  | If c a b p =>
    have q := and2 (show (f c && (fs a && gs b)) = true from e)
    exact k c a b p q.1 (and2 q.2).1 (and2 q.2).2
  | _ => exact falseE e
theorem isWh_e (e : isWh f fs x = true) (k : ∀ c b p, f c = true → fs b = true → P (.While c b [] p)) : P x := by
  cases x with
  | While c b o p =>
    cases o with
    | nil => exact k c b p (and2 e).1 (and2 e).2
    | cons t ts => exact falseE e
  | _ => exact falseE e
theorem isFor_e {t : Ev.T} (e : isFor nm t f fs x = true) (k : ∀ y it b p, isT nm t y = true → f it = true → fs b = true → P (.For y it b [] p)) : P x := by
  cases x with
  | For y it b o p =>
    cases o with
    | nil =>
      have q := and2 (show (isT nm t y && (f it && fs b)) = true from e)
      exact k y it b p q.1 (and2 q.2).1 (and2 q.2).2
    | cons t ts => exact falseE e
  | _ => exact falseE e
theorem isBrk_e (e : isBrk x = true) (k : ∀ p, P (.Break p)) : P x := by
  cases x with
  | Break p => exact k p
  | _ => exact falseE e
theorem isCont_e (e : isCont x = true) (k : ∀ p, P (.Continue p)) : P x := by
  cases x with
  | Continue p => exact k p
  | _ => exact falseE e
end

theorem swaps_nolc {v : Expr} (ok : okX v = true) (h : isLC v = false) : ∀ t line env, swapsWith v t line env = pure false := by
  cases v <;> first | exact fun _ _ _ => rfl | exact falseE ok | exact falseE h.symm
theorem swaps_lc {v : Expr} (h : isLC v = true) (t : Expr) (line : Nat) (env : Env) : ∃ b, swapsWithSole [t] v line env = pure b := by
  cases v with
  | ListComp elt gs sc p =>
    cases t with
    | Name y q => exact ⟨_, rfl⟩
    | _ => exact ⟨false, rfl⟩
  | _ => exact falseE h
theorem swaps_cases {ts : List Expr} {v : Expr} {line : Nat} {env : Env} (ok : okX v = true) : swapsWithSole ts v line env = pure false ∨ (swapsWithSole ts v line env = pure true ∧ isLC v = true ∧ ∃ t, ts = [t]) := by
  cases ts with
  | nil => exact .inl rfl
  | cons t ts => cases ts with
    | cons t2 ts => exact .inl rfl
    | nil =>
      cases hl : isLC v with
      | false => exact .inl (swaps_nolc ok hl (some t) line env)
      | true =>
        obtain ⟨b, hb⟩ := swaps_lc hl t line env
        cases b with
        | false => exact .inl hb
        | true => exact .inr ⟨hb, rfl, t, rfl⟩

section
variable {c : Cx} {C : Cc} {Δ : Dl} {n0 : Nat} {nm : Nm}
noncomputable def MS (c : Cx) (Δ : Dl) (n0 : Nat) (nm : Nm) (s : S) (x : Stmt) : Prop := ∀ n env fa X A vars σ fl vars' σ', Good n0 A → exS Δ n s vars σ = some (fl, vars', σ') → ExS c nm X env fa A (exec x env) vars σ fl vars' σ'
noncomputable def MSs (c : Cx) (Δ : Dl) (n0 : Nat) (nm : Nm) (ss : List S) (xs : List Stmt) : Prop := ∀ n env fa X A vars σ fl vars' σ', Good n0 A → exSs Δ n ss vars σ = some (fl, vars', σ') → ExS c nm X env fa A (execs xs env) vars σ fl vars' σ'
theorem MS.fuel {s : S} {x : Stmt} (h : ∀ n env fa X A vars σ fl vars' σ', Good n0 A → exS Δ (n + 1) s vars σ = some (fl, vars', σ') → ExS c nm X env fa A (exec x env) vars σ fl vars' σ') : MS c Δ n0 nm s x
  | 0, env, fa, X, A, vars, σ, fl, vars', σ', gd, he => noneE he
  | n + 1, env, fa, X, A, vars, σ, fl, vars', σ', gd, he => h n env fa X A vars σ fl vars' σ' gd he
theorem tri {α β γ : Type} {a a' : α} {b b' : β} {d d' : γ} (h : some (a, b, d) = some (a', b', d')) : a = a' ∧ b = b' ∧ d = d' := ⟨(pairI h).1, congrArg (·.2.1) (Option.some.inj h), congrArg (·.2.2) (Option.some.inj h)⟩
theorem MS.asg {Ts : List Ev.T} {e : E} {ts : List Expr} {v : Expr} {p : Pos} (hok : asgOk v = true) (ht : chkTs nm Ts ts = true) (hv : MX c Δ n0 nm e v) : MS c Δ n0 nm (.asg Ts e) (.Assign ts v p) :=
  MS.fuel fun n env fa X A vars σ fl vars' σ' gd he => by
    refine seqE (show seq1 (evE Δ n e vars) (fun d σ => (asgTs Ts d vars).map fun vars => (Flw.next, vars, σ)) σ = _ from he) fun d σ1 e1 he => mapE he fun vars1 e2 e3 => ?_
    obtain ⟨rfl, e4⟩ := Prod.mk.inj e3
    obtain ⟨rfl, rfl⟩ := Prod.mk.inj e4
    intro F ρ s Q Ex w post
    rcases swaps_cases (ts := ts) (line := p.line) (env := env) hv.ok with hs | ⟨hs, hl, t, rfl⟩
    · exact ExS.asg gd.hh w.f.kindF hok ht hs (hv.ev n env fa X A vars σ d σ1 gd e1) e2 F ρ s Q Ex w post
    · cases Ts with
      | nil => exact falseE ht
      | cons T Ts =>
        have h2 := and2 (show (isT nm T t && chkTs nm Ts []) = true from ht)
        cases Ts with
        | cons T2 Ts => exact falseE h2.2
        | nil => exact ExS.asgU gd.hh h2.1 hs (hv.us hl n env fa X A vars σ d σ1 gd e1) e2 F ρ s Q Ex w post
theorem MS.setAttr {o v : E} {k : Nat} {z u : Expr} {y : Str} {p p' : Pos} (D : DlOk c C Δ n0) (hk : attrIdx y = some k) (ho : MX c Δ n0 nm o z) (hv : MX c Δ n0 nm v u) : MS c Δ n0 nm (.setAttr o k v) (.Assign [.Attribute z y p] u p') :=
  MS.fuel fun n env fa X A vars σ fl vars' σ' gd he => by
    refine seqE (show seq1 (evE Δ n v vars) (fun d => seq1 (evE Δ n o vars) (setAttrK k vars d)) σ = _ from he) fun d σ1 e1 he => seqE he fun x σ2 e2 he => bindE he fun q e3 he => ?_
    obtain ⟨h1, he⟩ := iteT he
    obtain ⟨rfl, rfl, rfl⟩ := tri he
    obtain ⟨rfl, e4⟩ := instAt_inv e3
    exact ExS.setAttr D.Z D.cls D.cset (hv.ev n env fa X A vars σ d σ1 gd e1) (ho.ev n env fa X A vars σ1 _ σ2 gd e2) hk e4 h1
theorem MS.setIdx {o i v : E} {z w u : Expr} {p p' : Pos} (ho : MX c Δ n0 nm o z) (hi : MX c Δ n0 nm i w) (hv : MX c Δ n0 nm v u) : MS c Δ n0 nm (.setIdx o i v) (.Assign [.Subscript z w p] u p') :=
  MS.fuel fun n env fa X A vars σ fl vars' σ' gd he => by
    refine seqE (show seq1 (evE Δ n v vars) (fun d => seq1 (evE Δ n o vars) fun x => seq1 (evE Δ n i vars) (setIdxK vars d x)) σ = _ from he) fun d σ1 e1 he => seqE he fun x σ2 e2 he => seqE he fun y σ3 e3 he => bindE he fun q e4 he => bindE he fun j e5 he => ?_
    obtain ⟨h1, he⟩ := iteT he
    obtain ⟨rfl, rfl, rfl⟩ := tri he
    obtain ⟨rfl, e6⟩ := lstAt_inv e4
    rw [intD_inv e5] at e3
    exact ExS.setIdx (hv.ev n env fa X A vars σ d σ1 gd e1) (ho.ev n env fa X A vars σ1 _ σ2 gd e2) (hi.ev n env fa X A vars σ2 _ σ3 gd e3) e6 h1
theorem isNoneD_inv {d : D} (h : isNoneD d = true) : d = .none := by cases d <;> first | rfl | exact falseE h
theorem MS.expr {e : E} {a : Expr} {b : List Expr} {d : List Keyword} {p p' : Pos} (hv : MX c Δ n0 nm e (.Call a b d p)) : MS c Δ n0 nm (.expr e) (.Expr (.Call a b d p) p') :=
  MS.fuel fun n env fa X A vars σ fl vars' σ' gd he => by
    refine seqE (show seq1 (evE Δ n e vars) (fun d σ => if isNoneD d then some (Flw.next, vars, σ) else none) σ = _ from he) fun d σ1 e1 he => ?_
    obtain ⟨h1, he⟩ := iteT he
    obtain ⟨rfl, rfl, rfl⟩ := tri he
    rw [isNoneD_inv h1] at e1
    intro F ρ s Q Ex w post
    exact ExS.expr (hv.ev n env fa X A vars σ _ σ1 gd e1) (by unfold interactive; rw [w.f.kindF]; rfl) rfl F ρ s Q Ex w post
theorem MS.ret {e : E} {v : Expr} {p : Pos} (hv : MX c Δ n0 nm e v) : MS c Δ n0 nm (.ret e) (.Return (some v) p) :=
  MS.fuel fun n env fa X A vars σ fl vars' σ' gd he => by
    refine seqE (show seq1 (evE Δ n e vars) (fun d σ => (Ev.frz σ d).map fun p => (Flw.ret p.1, vars, p.2)) σ = _ from he) fun d σ1 e1 he => mapE he fun q e2 e3 => ?_
    obtain ⟨rfl, rfl, rfl⟩ := tri (congrArg some e3)
    exact ExS.ret (hv.ev n env fa X A vars σ d σ1 gd e1) e2
theorem MS.ite {e : E} {a b : List S} {v : Expr} {xs ys : List Stmt} {p : Pos} (hv : MX c Δ n0 nm e v) (ha : MSs c Δ n0 nm a xs) (hb : MSs c Δ n0 nm b ys) : MS c Δ n0 nm (.ite e a b) (.If v xs ys p) :=
  MS.fuel fun n env fa X A vars σ fl vars' σ' gd he => by
    refine seqE (show seq1 (trE Δ n e vars) (fun t σ => if t then exSs Δ n a vars σ else exSs Δ n b vars σ) σ = _ from he) fun t σ1 e1 he => ?_
    refine ExS.ite (hv.tr n env fa X A vars σ t σ1 gd e1) (fun ht => ?_) fun ht => ?_
    · subst ht; exact ha n env fa X A vars σ1 fl vars' σ' gd he
    · subst ht; exact hb n env fa X A vars σ1 fl vars' σ' gd he
theorem MS.wh {e : E} {b : List S} {v : Expr} {xs : List Stmt} {p : Pos} (hv : MX c Δ n0 nm e v) (hb : MSs c Δ n0 nm b xs) : MS c Δ n0 nm (.wh e b) (.While v xs [] p) :=
  MS.fuel fun n env fa X A vars σ fl vars' σ' gd he =>
    ExS.wh (fun vars σ v σ' h => hv.tr n env fa X A vars σ v σ' gd h) (fun vars σ fl vars' σ' h => hb n env fa X A vars σ fl vars' σ' gd h) (show whD (fun vars σ => trE Δ n e vars σ) (fun vars σ => exSs Δ n b vars σ) whFuel vars σ = _ from he)
theorem MS.for {t : Ev.T} {e : E} {b : List S} {y v : Expr} {xs : List Stmt} {p : Pos} (ht : isT nm t y = true) (hk : itOk e t = true) (hv : MX c Δ n0 nm e v) (hb : MSs c Δ n0 nm b xs) : MS c Δ n0 nm (.for t e b) (.For y v xs [] p) :=
  MS.fuel fun n env fa X A vars σ fl vars' σ' gd he => by
    refine seqE (show seq1 (itE Δ n e vars) (fun ds σ => forD (fun d vars σ => (asgT t d vars).bind fun vars => exSs Δ n b vars σ) ds vars σ) σ = _ from he) fun ds σ1 e1 he => ?_
    exact ExS.forIn (g := fun vars σ => exSs Δ n b vars σ) gd.hh ht (noFold hv.ok) (hv.it n nm y t env fa X A vars σ ds σ1 gd ht hk e1).1 (fun X' vars σ fl vars' σ' h => hb n env fa X' A vars σ fl vars' σ' gd h) he
theorem MS.brk {p : Pos} : MS c Δ n0 nm .brk (.Break p) := MS.fuel fun n env fa X A vars σ fl vars' σ' gd he => by
  obtain ⟨rfl, rfl, rfl⟩ := tri (show some (Flw.brk, vars, σ) = _ from he)
  exact ExS.brk
theorem MS.cont {p : Pos} : MS c Δ n0 nm .cont (.Continue p) := MS.fuel fun n env fa X A vars σ fl vars' σ' gd he => by
  obtain ⟨rfl, rfl, rfl⟩ := tri (show some (Flw.cont, vars, σ) = _ from he)
  exact ExS.cont
theorem exSs_inv {s : S} {ss : List S} {n : Nat} {vars vars' : Vars} {σ σ' : Sto} {fl : Flw} (h : exSs Δ (n + 1) (s :: ss) vars σ = some (fl, vars', σ')) :
    (∃ v1 σ1, exS Δ n s vars σ = some (.next, v1, σ1) ∧ exSs Δ n ss v1 σ1 = some (fl, vars', σ')) ∨ (fl ≠ .next ∧ exS Δ n s vars σ = some (fl, vars', σ')) := by
  have h' : (match exS Δ n s vars σ with | some (.next, vars, σ) => exSs Δ n ss vars σ | r => r) = some (fl, vars', σ') := h
  match hq : exS Δ n s vars σ, h' with
  | none, h' => exact noneE h'
  | some (.next, v1, σ1), h' => exact .inl ⟨v1, σ1, rfl, h'⟩
  | some (.brk, v1, σ1), h' => obtain ⟨rfl, rfl, rfl⟩ := tri h'; exact .inr ⟨(fun h => nomatch h), rfl⟩
  | some (.cont, v1, σ1), h' => obtain ⟨rfl, rfl, rfl⟩ := tri h'; exact .inr ⟨(fun h => nomatch h), rfl⟩
  | some (.ret d, v1, σ1), h' => obtain ⟨rfl, rfl, rfl⟩ := tri h'; exact .inr ⟨(fun h => nomatch h), rfl⟩
theorem MSs.nil : MSs c Δ n0 nm [] [] := fun n env fa X A vars σ fl vars' σ' gd he => by
  cases n with
  | zero => exact noneE he
  | succ n =>
    obtain ⟨rfl, rfl, rfl⟩ := tri (show some (Flw.next, vars, σ) = _ from he)
    exact ExS.nil
theorem MSs.cons {s : S} {ss : List S} {x : Stmt} {xs : List Stmt} (h : MS c Δ n0 nm s x) (hs : MSs c Δ n0 nm ss xs) : MSs c Δ n0 nm (s :: ss) (x :: xs) := fun n env fa X A vars σ fl vars' σ' gd he => by
  cases n with
  | zero => exact noneE he
  | succ n =>
    rcases exSs_inv he with ⟨v1, σ1, h1, h2⟩ | ⟨h1, h2⟩
    · exact ExS.cons (h n env fa X A vars σ .next v1 σ1 gd h1) (hs n env fa X A v1 σ1 fl vars' σ' gd h2)
    · exact ExS.stop (h n env fa X A vars σ fl vars' σ' gd h2) h1

structure ChkS (c : Cx) (C : Cc) (Δ : Dl) (n0 n : Nat) : Prop where
  s : ∀ s nm x, chkS C n s nm x = true → MS c Δ n0 nm s x
  ss : ∀ ss nm xs, chkSs C n ss nm xs = true → MSs c Δ n0 nm ss xs
theorem chkS_ok (D : DlOk c C Δ n0) {n : Nat} (ih : ChkS c C Δ n0 n) : ∀ s nm x, chkS C (n + 1) s nm x = true → MS c Δ n0 nm s x := by
  intro s nm x h
  have iE := chk_ok D n
  cases s with
  | asg ts e => exact isAsg_e h fun ts' v p h1 h2 h3 => .asg h1 h2 (iE.e _ _ _ h3)
  | setAttr o k e => exact isSetAttr_e h fun z y p v p' h1 h2 h3 => .setAttr D h1 (iE.e _ _ _ h2) (iE.e _ _ _ h3)
  | setIdx o i e => exact isSetIdx_e h fun z w p v p' h1 h2 h3 => .setIdx (iE.e _ _ _ h1) (iE.e _ _ _ h2) (iE.e _ _ _ h3)
  | expr e => exact isExpr_e h fun a b d p p' h1 => .expr (iE.e _ _ _ h1)
  | ret e => exact isRet_e h fun v p h1 => .ret (iE.e _ _ _ h1)
  | ite c a b => exact isIfS_e h fun v xs ys p h1 h2 h3 => .ite (iE.e _ _ _ h1) (ih.ss _ _ _ h2) (ih.ss _ _ _ h3)
  | wh c b => exact isWh_e h fun v xs p h1 h2 => .wh (iE.e _ _ _ h1) (ih.ss _ _ _ h2)
  | «for» t it b =>
    have h := and2 (show (itOk it t && isFor nm t (chkE C n it nm) (chkSs C n b nm) x) = true from h)
    exact isFor_e h.2 fun y v xs p h1 h2 h3 => .for h1 h.1 (iE.e _ _ _ h2) (ih.ss _ _ _ h3)
  | brk => exact isBrk_e h fun p => .brk
  | cont => exact isCont_e h fun p => .cont
theorem chkSs_ok {n : Nat} (ih : ChkS c C Δ n0 n) : ∀ ss nm xs, chkSs C (n + 1) ss nm xs = true → MSs c Δ n0 nm ss xs := by
  intro ss nm xs h
  cases ss with
  | nil => cases xs with
    | nil => exact MSs.nil
    | cons x xs => exact falseE h
  | cons s ss => cases xs with
    | nil => exact falseE h
    | cons x xs =>
      have h := and2 (show (chkS C n s nm x && chkSs C n ss nm xs) = true from h)
      exact MSs.cons (ih.s _ _ _ h.1) (ih.ss _ _ _ h.2)
theorem chkS_all (D : DlOk c C Δ n0) : ∀ n, ChkS c C Δ n0 n
  | 0 => ⟨fun s nm x h => falseE h, fun s nm x h => falseE h⟩
  | n + 1 => ⟨chkS_ok D (chkS_all D n), chkSs_ok (chkS_all D n)⟩
theorem bodyOk (D : DlOk c C Δ n0) {sc : Scope} {m k : Nat} {body : List Stmt} {b : List S} (hc : chkSs C k b nm body = true) : BodyOk c n0 nm sc Δ m body b :=
  fun env fa A X vars σ fl vars' σ' _ gd he => (chkS_all D k).ss _ _ _ hc m env fa X A vars σ fl vars' σ' gd he
end
end Ev
end
section
set_option maxRecDepth 100000
set_option autoImplicit false
set_option linter.all false
namespace Ev
open PySem PySem.W PySem.Calls PyProof.Rows PySem.SeqAt

/-- the defs of a text, each by its number -/
structure Tbl where
  fns : Nat → Option Fn
  muts : Nat → Option Fn
  init : Fn

noncomputable def onFn (o : Option Fn) (f : Fn → Option D) : Option D := match o with
  | some g => f g
  | none => none
noncomputable def onMu (o : Option Fn) (f : Fn → Option (D × List D)) : Option (D × List D) := match o with
  | some g => f g
  | none => none
/-- k levels of calls -/
noncomputable def lev (T : Tbl) (hot srt : Bool) : Nat → Dl
  | 0 => { fns := fun _ _ => none, muts := fun _ _ _ => none, new := fun _ => none, hot := hot, srt := srt }
  | k + 1 => { fns := fun i ds => onFn (T.fns i) fun f => runP (lev T hot srt k) 200 f ds, muts := fun i xs ds => onMu (T.muts i) fun f => runM (lev T hot srt k) 200 f xs ds,
               new := fun d => runI (lev T hot srt k) 200 T.init d, hot := hot, srt := srt }

/-! what the heap must hold, as one check -/
noncomputable def funD : Data → Option FuncData
  | .func fd => some fd
  | _ => none
noncomputable def funOf (o : Option Obj) : Option FuncData := o.bind fun o => funD o.data
noncomputable def onFun (o : Option FuncData) (f : FuncData → Bool) : Bool := match o with
  | some fd => f fd
  | none => false
noncomputable def fnAt (C : Cc) (K : Frag) (fn : Fn) (a : Addr) : Bool := onFun (funOf (K.lookup a)) fun fd => codeIn K fd.code fd.qualname && fnIs C fn fd
noncomputable def fnAt? (C : Cc) (K : Frag) (o : Option Fn) (a : Addr) : Bool := match o with
  | some fn => fnAt C K fn a
  | none => true
noncomputable def onRef (o : Option (Option Value)) (f : Addr → Bool) : Bool := match o with
  | some (some (.ref a)) => f a
  | _ => false
noncomputable def allAt (f : Nat → Str → Bool) : Nat → List Str → Bool
  | _, [] => true
  | i, x :: r => f i x && allAt f (i + 1) r
noncomputable def noneIn {α : Type} (o : Option (Option α)) : Bool := match o with
  | some none => true
  | _ => false
noncomputable def globAt (C : Cc) (K : Frag) (o : Option Fn) (x : Str) : Bool := onRef (nsIn K mainGlobals x) fun a => keepIn K (.ref a) && fnAt? C K o a
noncomputable def methAt (C : Cc) (K : Frag) (c : Addr) (o : Option Fn) (m : Str) : Bool := onRef (findIn K (.ref c) m) fun g => isFn K (.ref g) && (plainGet K c m && ((List.range 5).all (fun k => !(attrName k == m)) && (keepIn K (.ref g) && fnAt? C K o g)))
noncomputable def attrAt (K : Frag) (c : Addr) (k : Nat) : Bool := plainGet K c (attrName k) && (noneIn (findIn K (.ref c) (attrName k)) && noneIn (takerIn K c (attrName k)))
noncomputable def bis : List Bi := [.len, .max, .min, .abs, .round, .sum, .sorted, .list, .tuple, .divmod, .range, .enumerate, .zip]
noncomputable def clsAt (C : Cc) (K : Frag) (T : Tbl) (c : Addr) : Bool := onRef (nsIn K mainGlobals C.cls) fun a => decide (a = c) && (keepIn K (.ref c) && (makesIn K c && onRef (findIn K (.ref c) "__init__") fun f => fnAt C K T.init f && decide (typeIn K (.ref f) = some (.type "function"))))
noncomputable def isBui (o : Option (Option Value)) (n : String) : Bool := match o with
  | some (some (.builtin m)) => m == n
  | _ => false
noncomputable def clsStr (K : Frag) (C : Addr) (y : Str) (x : List Nat) : Bool := match findCls K (.ref C) (.type "type") y with
  | some (.val (.str z _)) => z.cps.toList == x
  | _ => false
noncomputable def fnsAt (C : Cc) (K : Frag) (T : Tbl) : Bool := allAt (fun i x => globAt C K (T.fns i) x) 0 C.fns
noncomputable def mutsAt (C : Cc) (K : Frag) (T : Tbl) : Bool := allAt (fun i x => globAt C K (T.muts i) x) 0 C.muts
noncomputable def methsAt (C : Cc) (K : Frag) (T : Tbl) (c : Addr) : Bool := allAt (fun i m => methAt C K c (T.fns (methBase + i)) m) 0 C.meths
noncomputable def restAt (C : Cc) (K : Frag) (c : Addr) : Bool := bis.all (fun b => noneIn (nsIn K mainGlobals (biName b))) && (hasDictIn K c && ((List.range 5).all (attrAt K c) && (isBui (findIn K (.ref c) "__setattr__") "object.__setattr__" && (plainOver K c && (noneIn (nsIn K cStatics PySem.sharingNotToldKey) && (readsIn K c (.type "type") && C.cattrs.all fun p => clsStr K c p.1 p.2))))))
noncomputable def stmtAt : Stmt → Bool
  | .Assign _ v _ => !isLC v
  | _ => false
noncomputable def bodyAt : FuncBody → Bool
  | .stmts b => (match b with | [] => false | x :: _ => stmtAt x)
  | _ => false
/-- the law's own def: its first statement a plain store -/
noncomputable def lawAt (C : Cc) (K : Frag) (fn : Fn) (i : Nat) (x : Str) : Bool := onRef (nsIn K mainGlobals x) fun a => fnAt C K fn a && onFun (funOf (K.lookup a)) fun fd => (match fd.scope.names[i]? with | some p => decide (p.2 = .local) | none => false) && bodyAt fd.body
structure TblChk (C : Cc) (K : Frag) (T : Tbl) (c : Addr) : Prop where
  fns : fnsAt C K T = true
  muts : mutsAt C K T = true
  meths : methsAt C K T c = true
  cls : clsAt C K T c = true
  rest : restAt C K c = true

theorem onFun_inv {o : Option FuncData} {f : FuncData → Bool} (h : onFun o f = true) : ∃ fd, o = some fd ∧ f fd = true := by
  cases o with
  | none => exact falseE h
  | some fd => exact ⟨fd, rfl, h⟩
theorem funD_inv {d : Data} {fd : FuncData} (h : funD d = some fd) : d = .func fd := by
  cases d with
  | func g => exact congrArg Data.func (Option.some.inj h)
  | _ => exact noneE h
theorem funOf_inv {o : Option Obj} {fd : FuncData} (h : funOf o = some fd) : ∃ oc od sl, o = some ⟨oc, od, .func fd, sl⟩ :=
  bindE h fun ob h1 h2 => by
    obtain ⟨oc, od, da, sl⟩ := ob
    rw [h1, show da = .func fd from funD_inv h2]
    exact ⟨oc, od, sl, rfl⟩
theorem onRef_inv {o : Option (Option Value)} {f : Addr → Bool} (h : onRef o f = true) : ∃ a, o = some (some (.ref a)) ∧ f a = true := by
  cases o with
  | none => exact falseE h
  | some o => cases o with
    | none => exact falseE h
    | some v => cases v with
      | ref a => exact ⟨a, rfl, h⟩
      | _ => exact falseE h
theorem noneIn_inv {α : Type} {o : Option (Option α)} (h : noneIn o = true) : o = some none := by
  cases o with
  | none => exact falseE h
  | some o => cases o with
    | none => rfl
    | some v => exact falseE h
theorem isBui_inv {o : Option (Option Value)} {n : String} (h : isBui o n = true) : o = some (some (.builtin n)) := by
  cases o with
  | none => exact falseE h
  | some o => cases o with
    | none => exact falseE h
    | some v => cases v with
      | builtin a => rw [show a = n from eq_of_beq h]
      | _ => exact falseE h
theorem allAt_inv {f : Nat → Str → Bool} : ∀ {l : List Str} {k : Nat}, allAt f k l = true → ∀ {i : Nat} {x : Str}, l[i]? = some x → f (k + i) x = true
  | [], k, h, i, x, e => by rw [List.getElem?_nil] at e; exact noneE e
  | y :: r, k, h, 0, x, e => by
    obtain rfl := Option.some.inj (show some y = some x from e)
    exact (and2 h).1
  | y :: r, k, h, i + 1, x, e => by
    have := allAt_inv (and2 (show (f k y && allAt f (k + 1) r) = true from h)).2 (i := i) (x := x) e
    rw [Nat.add_assoc, Nat.add_comm 1 i] at this
    exact this
theorem fnIn_of {c : Cx} {C : Cc} {a : Addr} {fn : Fn} (h : fnAt C c.K fn a = true) : ∃ fd as body, FnIn c C a fd fn as body := by
  obtain ⟨fd, h1, h2⟩ := onFun_inv h
  obtain ⟨h2, h3⟩ := and2 h2
  obtain ⟨body, q⟩ := fnIs_inv h3
  exact ⟨fd, _, body, q, funOf_inv h1, h2⟩
theorem strIdx_get : ∀ {l : List Str} {x : Str} {i : Nat}, strIdx l x = some i → l[i]? = some x
  | [], _, _, h => noneE h
  | y :: r, x, i, h => by
    have h : (if (x == y) = true then some 0 else (strIdx r x).map (· + 1)) = some i := h
    by_cases q : (x == y) = true
    · rw [if_pos q] at h; cases h; rw [eq_of_beq q]; rfl
    · rw [if_neg q] at h; exact mapE h fun j h1 h2 => by subst h2; exact (show r[j]? = some x from strIdx_get h1)

section
variable {c : Cx} {C : Cc} {T : Tbl}
theorem PureC.le {n m : Nat} {v : Value} {sp : List D → Option D} (h : PureC c n v sp) (hl : n ≤ m) : PureC c m v sp :=
  fun ds d e A F X s vs Q Ex gd g r hp post => h ds d e A F X s vs Q Ex (gd.le hl) g r hp post
theorem MutC.le {n m : Nat} {v : Value} {sp : List D → List D → Option (D × List D)} (h : MutC c n v sp) (hl : n ≤ m) : MutC c m v sp :=
  fun xs ds d ys e A F X s a vs Q Ex gd g r hp hq post => h xs ds d ys e A F X s a vs Q Ex (gd.le hl) g r hp hq post
theorem pureAt {Δ : Dl} {o : Option Fn} {a : Addr} {n : Nat} (Z : Bas c) (D : DlOk c C Δ n) (h : fnAt? C c.K o a = true) : PureC c (n + 2) (.ref a) (fun ds => onFn o fun f => runP Δ 200 f ds) := by
  cases o with
  | none => exact fun ds d e => noneE e
  | some fn =>
    obtain ⟨fd, as, body, hin⟩ := fnIn_of (c := c) h
    exact (pureOf (Δ := Δ) (m := 200) Z hin (bodyOk D hin.ok.comp)).le (Nat.le_succ _)
theorem mutAt {Δ : Dl} {o : Option Fn} {a : Addr} {n : Nat} (Z : Bas c) (D : DlOk c C Δ n) (h : fnAt? C c.K o a = true) : MutC c (n + 2) (.ref a) (fun xs ds => onMu o fun f => runM Δ 200 f xs ds) := by
  cases o with
  | none => exact fun xs ds d ys e => noneE e
  | some fn =>
    obtain ⟨fd, as, body, hin⟩ := fnIn_of (c := c) h
    exact (mutOf (Δ := Δ) (m := 200) Z hin (bodyOk D hin.ok.comp)).le (Nat.le_succ _)

theorem ns_none {K : Frag} {h : Heap} {a : Addr} {m : Str → Option Value} {n : Str} (X : K.In h) (G : h.Ns a m) (e : nsIn K a n = some none) : m n = none := by
  obtain ⟨o, es, ep, ho, hd, _, hf⟩ := G
  unfold nsIn at e
  split at e
  · rename_i c d es' n' sl q
    have := X _ _ q
    rw [ho] at this
    cases this
    cases hd
    split at e
    · cases e
    · rename_i he
      rw [← hf]
      unfold nsFind findBy
      rw [← Array.find?_toList, he]
      rfl
  · cases e
theorem clsStr_of {K : Frag} {C : Addr} {y : Str} {x : List Nat} (h : clsStr K C y x = true) : ∃ t, findCls K (.ref C) (.type "type") y = some (.val (.str ⟨x.toArray⟩ t)) := by
  unfold clsStr at h
  split at h
  · rename_i z t e
    obtain rfl := eq_of_beq h
    exact ⟨t, e⟩
  · exact falseE h
theorem lookup_all {l : List (Str × List Nat)} {f : Str × List Nat → Bool} (h : l.all f = true) : ∀ {y : Str} {x : List Nat}, l.lookup y = some x → f (y, x) = true := by
  induction l with
  | nil => exact fun e => noneE e
  | cons p r ih =>
    intro y x e
    obtain ⟨z, u⟩ := p
    have h := and2 (show (f (z, u) && r.all f) = true from h)
    rw [List.lookup_cons] at e
    cases q : y == z with
    | true => rw [q] at e; cases e; rw [eq_of_beq q]; exact h.1
    | false => rw [q] at e; exact ih h.2 e
/-- the class attribute, read as written -/
theorem catOf (Z : Bas c) (hn : nsIn c.K mainGlobals C.cls = some (some (.ref c.C))) (hr : readsIn c.K c.C (.type "type") = true) (h : ∀ y x, C.cattrs.lookup y = some x → clsStr c.K c.C y x = true) {nm : Nm} {X : PMap} {env : Env} {fa : List (Option Addr)} {A : Around} {vars : Vars} {σ : Sto} {x : Str} {p : Pos} {y : Str} {pos : Pos} {t : List Nat}
    (hg : isGlob nm x = true) (hx : (x == C.cls) = true) (hl : C.cattrs.lookup y = some t) : EvV c nm X env fa A (eval (.Attribute (.Name x p) y pos) env) vars σ (.str t) σ := by
  intro F ρ s Q Ex w post
  have hx' : x = C.cls := eq_of_beq hx
  subst hx'
  obtain ⟨hgl, hdb⟩ := isGlob_lookup hg
  obtain ⟨tk, hf⟩ := clsStr_of (h y t hl)
  have he : eval (.Attribute (.Name C.cls p) y pos) env = (do
      let o ← attributeBase (.Name C.cls p) y env (eval (.Name C.cls p) env)
      standAt pos.atName
      let r ← holding [o] (getAttr o y true)
      letTemporaryGo (.Name C.cls p) o r
      pure r) := rfl
  rw [he, attrBase rfl]
  refine wpAny_bind (w.f.global Z w.g hgl hn hdb (wpAny_bind (wpAny_standAt (wpAny_bind (wpAny_holding ?_)))))
  refine cls_value (w.g.K Z) hr hf rfl ?_
  refine wpAny_bind (wpAny_letTemporaryGo (wpAny_pure ?_))
  exact post F ρ _ _ PLe.rfl (List.prefix_refl _) (w.keep .tok) (.str _ _)

/-- what the heap at the start must be besides -/
structure Start (c : Cx) : Prop where
  Z : Bas c
  nb : ∀ {n : Str}, nsIn c.K cStatics n = some none → n = PySem.sharingNotToldKey → NoneBooked c.B
theorem bis_all {f : Bi → Bool} (h : bis.all f = true) (b : Bi) : f b = true := List.all_eq_true.mp h b (by cases b <;> decide)
theorem range5 {f : Nat → Bool} (h : (List.range 5).all f = true) (k : Nat) (hk : k < 5) : f k = true := List.all_eq_true.mp h k (List.mem_range.mpr hk)
theorem onFn_none (Δ : Dl) (ds : List D) : onFn none (fun f => runP Δ 200 f ds) = none := rfl
theorem lev_ok {hot srt : Bool} (H : TblChk C c.K T c.C) (S : Start c) (hh : hot = true → c.pos = true) (hs : srt = true → SortOk c) : ∀ k, DlOk c C (lev T hot srt k) (2 * k)
  | 0 => lev_step H S hh hs (fun f o _ => by exact fun ds d e => noneE e) (fun f o _ => by exact fun xs ds d ys e => noneE e) (fun f _ _ _ _ => by exact fun x d e => noneE e)
  | k + 1 => by
    have ih := lev_ok (hot := hot) (srt := srt) H S hh hs k
    exact lev_step H S hh hs (fun f a h => pureAt S.Z ih h) (fun f a h => mutAt S.Z ih h) fun f h1 h2 h3 h4 => by
      obtain ⟨fd, as, body, hin⟩ := fnIn_of (c := c) h1
      exact newOf (Δ := lev T hot srt k) (m := 200) S.Z hin (bodyOk ih hin.ok.comp) h2 h3 h4
where
  lev_step {Δ : Dl} {n : Nat} (H : TblChk C c.K T c.C) (S : Start c) (hh : Δ.hot = true → c.pos = true) (hs : Δ.srt = true → SortOk c)
      (hf : ∀ f a, fnAt? C c.K (T.fns f) a = true → PureC c n (.ref a) (Δ.fns f)) (hm : ∀ f a, fnAt? C c.K (T.muts f) a = true → MutC c n (.ref a) (Δ.muts f))
      (hn : ∀ f, fnAt C c.K T.init f = true → makesIn c.K c.C = true → findIn c.K (.ref c.C) "__init__" = some (some (.ref f)) → typeIn c.K (.ref f) = some (.type "function") → NewC c n (.ref c.C) Δ.new) : DlOk c C Δ n := by
    have r1 := and2 H.rest
    have r2 := and2 r1.2
    have r3 := and2 r2.2
    have r4 := and2 r3.2
    have r5 := and2 r4.2
    have r6 := and2 r5.2
    have r7 := and2 r6.2
    obtain ⟨a, c1, c2⟩ := onRef_inv H.cls
    have c2 := and2 c2
    have c3 := and2 c2.2
    have c4 := and2 c3.2
    obtain ⟨f, c5, c6⟩ := onRef_inv c4.2
    have c6 := and2 c6
    rw [of_decide_eq_true c2.1] at c1
    have at5 := fun k hk => and2 (range5 r3.1 k hk)
    refine { Z := S.Z, N := fun b => noneIn_inv (bis_all r1.1 b), cls := ⟨r2.1, fun k hk => ⟨(at5 k hk).1, none, noneIn_inv (and2 (at5 k hk).2).1, rfl⟩⟩, cset := ⟨isBui_inv r4.1, r5.1, fun k hk => noneIn_inv (and2 (at5 k hk).2).2⟩, nb := S.nb (noneIn_inv r6.1) rfl, fn := fun x f h => ?_, mu := fun x f h => ?_, me := fun m f h => ?_, nw := ⟨_, c1, c3.1, hn f c6.1 c4.1 c5 (of_decide_eq_true c6.2)⟩, cat := fun nm X env fa A vars σ x p y pos t => catOf S.Z c1 r7.1 (fun y x e => lookup_all r7.2 e), hot := hh, srt := hs }
    · have q := allAt_inv H.fns (strIdx_get h)
      rw [Nat.zero_add] at q
      obtain ⟨a, q1, q2⟩ := onRef_inv q
      exact ⟨_, q1, (and2 q2).1, hf f a (and2 q2).2⟩
    · have q := allAt_inv H.muts (strIdx_get h)
      rw [Nat.zero_add] at q
      obtain ⟨a, q1, q2⟩ := onRef_inv q
      exact ⟨_, q1, (and2 q2).1, hm f a (and2 q2).2⟩
    · have q := allAt_inv H.meths (strIdx_get h)
      rw [Nat.zero_add] at q
      obtain ⟨g, q1, q2⟩ := onRef_inv q
      have q3 := and2 q2
      have q4 := and2 q3.2
      have q5 := and2 q4.2
      have q6 := and2 q5.2
      exact ⟨g, q1, q3.1, q4.1, fun k hk => (Bool.not_eq_true' _).mp (range5 q5.1 k hk), q6.1, hf _ g q6.2⟩
end
end Ev
end
section
set_option maxRecDepth 100000
set_option autoImplicit false
set_option linter.all false
namespace Ev
open PySem PySem.W PySem.Calls PyProof.Rows PySem.SeqAt

noncomputable def Cx.warm (c : Cx) : Cx := { c with pos := true }

section
variable {c : Cx} {nm : Nm} {X : PMap} {fa : List (Option Addr)} {σ σ' σ1 σ2 : Sto} {env : Env} {vars vars' vars1 : Vars} {A : Around} {F F' : FM} {ρ ρ' : List (List Addr)} {s s' : Shared}

theorem G.warm (g : G c F X fa ρ σ s) (h : 0 < s.toks) : G c.warm F X fa ρ σ s where
  f := g.f
  x := g.x
  fx := g.fx
  base := g.base
  apart := g.apart
  own := g.own
  objs := g.objs
  len := g.len
  gens := g.gens
  tpos := fun _ => h
  ft := g.ft
  os := g.os
theorem FrR.warm {h : Heap} (f : FrR c nm F X ρ env fa vars h) : FrR c.warm nm F X ρ env fa vars h where
  kindF := f.kindF
  glob := f.glob
  bi := f.bi
  nd := f.nd
  len := f.len
  l0 := f.l0
  kinds := f.kinds
  ns := f.ns
  cell := f.cell
  free := f.free
theorem W.warm (w : W c nm X env fa F ρ vars σ s) (h : 0 < s.toks) : W c.warm nm X env fa F ρ vars σ s := ⟨w.g.warm h, w.f.warm⟩

/-- a store into a local name: the tokens are warm behind it -/
theorem storeL {M : Model} {E : Value → Shared → Prop} {i : Nat} {x : Str} {v : Value} {d : D} {Q : Unit → Shared → Prop} (w : W c nm X env fa F ρ vars σ s) (hx : nm[i]? = some (x, .local)) (hv : Rv c.C F ρ v d)
    (h : ∀ s', W c nm X env fa F ρ (vars.set i (some d)) σ s' → 0 < s'.toks → Q () s') : wpAny M A (storeName env x v) Q E s := by
  have f := w.f
  have g := w.g
  have hl := lookup_idx f.nd hx
  have hk' := f.kinds x _ hl
  have hi : i < vars.length := by rw [f.len]; exact (List.getElem?_eq_some_iff.mp hx).1
  obtain ⟨m, hn, hm⟩ := f.ns
  refine wpAny_storeName_local (hk'.2 (by decide)) hn (fun h' hn' hs' => ?_) (by rw [f.kindF]; rfl)
  have g' : G c F X fa ρ σ { s with heap := h', toks := s.toks + 1 } := g.turnFr f.l0 (fun b o hb e => (hs'.2 b hb).trans e) (let ⟨o, _, _, e, _⟩ := hn'; ⟨o, e⟩) (Nat.le_succ _)
  refine h _ ⟨g', { f with len := by simpa using f.len, ns := ⟨_, hn', fun j y e h1 h2 => ?_⟩, cell := fun j y h1 => ?_, free := fun j y e h1 h2 => ?_ }⟩ (Nat.succ_pos _)
  · by_cases hij : j = i
    · subst hij
      rw [hx] at h1; cases h1
      rw [List.getElem?_set_self hi] at h2; cases h2
      exact ⟨v, by simp, hv⟩
    · rw [List.getElem?_set_ne (Ne.symm hij)] at h2
      obtain ⟨u, e1, e2⟩ := hm j y e h1 h2
      refine ⟨u, ?_, e2⟩
      have : y ≠ x := fun q => hij (name_idx f.nd h1 (q ▸ hx))
      simp [this, e1]
  · obtain ⟨a, w', q1, q2, ⟨o, q3, q4⟩, q5⟩ := f.cell j y h1
    have hne : j ≠ i := fun q => by subst q; rw [hx] at h1; cases h1
    have ha : a ≠ env.locals := fun q => by
      have := g.apart (.fr (j + 1)) (.fr 0) a trivial trivial (adrs_fr.mpr q2) (adrs_fr.mpr (q ▸ f.l0))
      cases this
    refine ⟨a, w', q1, q2, ⟨o, (hs'.2 a ha).trans q3, q4⟩, fun e he => ?_⟩
    rw [List.getElem?_set_ne (Ne.symm hne)] at he
    exact q5 e he
  · have hne : j ≠ i := fun q => by subst q; rw [hx] at h1; cases h1
    rw [List.getElem?_set_ne (Ne.symm hne)] at h2
    exact f.free j y e h1 h2
end

section
variable {c : Cx} {C : Cc} {Δ0 Δ1 : Dl} {n : Nat}
/-- the first statement of the law's def: a plain store into a local name -/
structure Fst (fd : FuncData) (body : List Stmt) (i : Nat) : Prop where
  loc : ∃ x, fd.scope.names[i]? = some (x, .local)
  lc : ∀ ts v p r, body = .Assign ts v p :: r → isLC v = false
theorem isT_loc {nm : Nm} {i : Nat} {x : Str} {t : Expr} (h : isT nm (.var i) t = true) (hx : nm[i]? = some (x, .local)) : ∃ p, t = .Name x p := by
  obtain ⟨y, p, rfl, h1⟩ := isT_var h
  obtain ⟨k, q1, _⟩ := compTgt_idx h1
  have q3 := nmIdx_get q1
  rw [hx] at q3; cases q3
  exact ⟨p, rfl⟩
/-- the law's own def: its first statement cold, the others warm -/
theorem mainOf {f : Addr} {fd : FuncData} {fn : Fn} {as : List Arg} {body : List Stmt} {i : Nat} {e : E} {rb : List S} {ds : List Ev.D} {d d1 : Ev.D} {vars2 : Vars} {σ1 σ2 : Sto} {m1 m2 : Nat} {A : Around} {F : FM} {X : PMap} {s : Shared} {vs : List Value} {Q : Value → Shared → Prop} {Ex : Value → Shared → Prop}
    (D0 : DlOk c C Δ0 n) (D1 : DlOk c.warm C Δ1 n) (h : FnIn c C f fd fn as body) (hb : fn.body = .asg [.var i] e :: rb) (hf : Fst fd body i) (hlen : ds.length = fn.np)
    (e1 : evE Δ0 m1 e (startVars fn ds) [] = some (d1, σ1)) (e2 : exSs Δ1 m2 rb ((startVars fn ds).set i (some d1)) σ1 = some (.ret d, vars2, σ2)) (hd : d.pure = true)
    (gd : Good (n + 1) A) (g : G c F X [] [] [] s) (rv : Rvs c.C F [] vs ds) (post : ∀ F' r s', PLe F F' → G c.warm F' X [] [] [] s' → Rv c.C F' [] r d → Q r s') : wpAny (model c.prog c.w) A (call (.ref f) vs) Q Ex s := by
  obtain ⟨oc, od, sl, ho⟩ := h.at_
  have hcomp := h.ok.comp
  rw [hb] at hcomp
  refine wpAny_call (enterFn h.ok D0.Z g (g.K D0.Z _ _ ho) rfl (codeRec_of (g.K D0.Z) h.code) (g.nolim D0.Z) gd.room rv hlen fun env fa s1 hsc w => ?_)
  have gd' : Good n (A.deeper env) := gd.deeper
  cases body with
  | nil => exact falseE hcomp
  | cons st rest =>
    have h1 := and2 (show (chkS C 199 (.asg [.var i] e) fd.scope.names st && chkSs C 199 rb fd.scope.names rest) = true from hcomp)
    have lc := hf.lc
    refine isAsg_e (P := fun st => (∀ ts v p r, st :: rest = .Assign ts v p :: r → isLC v = false) → wpAny (model c.prog c.w) (A.deeper env) (execs (st :: rest) env) _ _ s1) (show isAsg (chkTs fd.scope.names [.var i]) (chkE C 198 e fd.scope.names) st = true from h1.1) (fun ts v p _ h3 h4 lc => ?_) lc
    have hv := (chk_ok D0 198).e _ _ _ h4
    have hlc := lc ts v p rest rfl
    cases ts with
    | nil => exact falseE h3
    | cons t ts =>
    have h5 := and2 (show (isT fd.scope.names (.var i) t && chkTs fd.scope.names [] ts) = true from h3)
    cases ts with
    | cons t2 ts => exact falseE h5.2
    | nil =>
    obtain ⟨x, hx⟩ := hf.loc
    obtain ⟨pp, rfl⟩ := isT_loc h5.1 hx
    refine wpAny_execs_cons (wpAny_Assign_Name (hv.ev m1 env fa X _ _ _ _ _ gd' e1 F [] s1 _ _ w fun F1 ρ1 u s2 l1 p1 w1 rr => ?_) (swaps_nolc hv.ok hlc _ _ _))
    refine storeL w1 hx rr fun s3 w3 ht => ?_
    refine (chkS_all D1 199).ss _ _ _ h1.2 m2 env fa X _ _ _ _ _ _ gd' e2 F1 ρ1 s3 _ _ (w3.warm ht) fun F2 ρ2 fl s4 l2 p2 w4 r4 => ?_
    obtain ⟨v, rfl, r⟩ := r4.inv
    exact post F2 _ s4 (l1.trans l2) w4.g.only0 (r.toPure hd)

/-- all that stands is frozen -/
noncomputable def allF (h : Heap) : FM := ⟨fun a => h.get? a, fun _ => none⟩
theorem startG {s : Shared} (hB : c.B = s.heap) (hS : c.S0 = s) (hp : c.pos = false) : G c (allF s.heap) (fun _ => none) [] [] [] s where
  f := fun a o e => e
  x := fun a o e => noneE e
  fx := fun a o e => rfl
  base := fun a o e => by rw [hB] at e; exact e
  apart := fun t _ a _ _ h => (noTag h).elim
  own := fun t a _ h => (noTag h).elim
  objs := fun l m e => noneE e
  len := rfl
  gens := by rw [hS]
  tpos := fun h => by rw [hp] at h; exact falseE h
  ft := fun t x e => noneE e
  os := by rw [hS]
theorem argInts {C : Addr} {F : FM} {ρ : List (List Addr)} {vs : List Value} {is : List Int} (h : IntsAre vs is) : Rvs C F ρ vs (is.map .int) := by
  induction h with
  | nil => exact .nil
  | cons => rename_i ih; exact .cons (.int _ _) ih
theorem goodCaller {n : Nat} (h : n ≤ 600) : Good n callerA := ⟨rfl, by show 1 + claimMargin + n < recursionLimit; have : claimMargin = 300 := rfl; have : recursionLimit = 1000 := rfl; omega, by show 4 + 10 * n + 100 < cLine; have : cLine = 9900 := rfl; omega⟩
theorem stmtAt_inv {x : Stmt} (h : stmtAt x = true) {ts : List Expr} {v : Expr} {p : Pos} (e : x = .Assign ts v p) : isLC v = false := by
  subst e; exact (Bool.not_eq_true' _).mp h
theorem lawAt_inv {C : Cc} {K : Frag} {fn : Fn} {i : Nat} {x : Str} (h : lawAt C K fn i x = true) : ∃ a, nsIn K mainGlobals x = some (some (.ref a)) ∧ fnAt C K fn a = true ∧ ∀ oc od fd sl, K.lookup a = some ⟨oc, od, .func fd, sl⟩ → ∀ body, fd.body = .stmts body → Fst fd body i := by
  obtain ⟨a, h1, h2⟩ := onRef_inv h
  have h2 := and2 h2
  refine ⟨a, h1, h2.1, fun oc od fd sl hk body hb => ?_⟩
  obtain ⟨fd', h3, h4⟩ := onFun_inv h2.2
  rw [hk] at h3
  obtain rfl := Option.some.inj (show some fd = some fd' from h3)
  have h4 := and2 h4
  have h6 := h4.2
  rw [hb] at h6
  have h5 := h4.1
  refine ⟨?_, fun ts v p r e => ?_⟩
  · cases hq : fd.scope.names[i]? with
    | none => rw [hq] at h5; exact falseE h5
    | some q => rw [hq] at h5; exact ⟨q.1, by rw [← of_decide_eq_true (show decide (q.2 = .local) = true from h5)]⟩
  · rw [e] at h6
    exact stmtAt_inv (show stmtAt (.Assign ts v p) = true from h6) rfl

/-- what stands when the law is called -/
structure Here (c : Cx) (s : Shared) (mg : Str → Option Value) : Prop where
  S : Start c
  S2 : Start c.warm
  hB : c.B = s.heap
  hS : c.S0 = s
  hp : c.pos = false
  KX : c.K.In s.heap
  g : s.heap.Ns mainGlobals mg
theorem walkOf {T : Tbl} {fn : Fn} {i : Nat} {e : E} {rb : List S} {name : Str} {s : Shared} {mg : Str → Option Value} {zs : List Int} {k : Nat} {hot srt : Bool} (H : TblChk C c.K T c.C) (L : lawAt C c.K fn i name = true) (S : Here c s mg) (hs : srt = true → SortOk c) (hs2 : srt = true → SortOk c.warm) (hb : fn.body = .asg [.var i] e :: rb) (hnp : fn.np = 1) (hk : 2 * k + 1 ≤ 600)
    (plain : ∃ m1 m2 d1 σ1 vars2 σ2, evE (lev T false srt k) m1 e (startVars fn [.lst (zs.map .int)]) [] = some (d1, σ1) ∧ exSs (lev T true srt k) m2 rb ((startVars fn [.lst (zs.map .int)]).set i (some d1)) σ1 = some (.ret (.bool true), vars2, σ2))
    {fa l : Addr} {vs : List Value} {Q : Value → Shared → Prop} {Ex : Value → Shared → Prop} (hmg : mg name = some (.ref fa)) (hL : s.heap.IsList l vs.toArray) (hI : IntsAre vs zs)
    (hQ : ∀ s', (∀ b o, s.heap.get? b = some o → s'.heap.get? b = some o) → s'.os = s.os → s'.gens = s.gens → Q (.bool true) s') : wpAny (model c.prog c.w) callerA (call (.ref fa) [.ref l]) Q Ex s := by
  obtain ⟨a, q1, q2, q3⟩ := lawAt_inv L
  have hfa := mg_of S.KX S.g q1
  rw [hmg] at hfa
  cases hfa
  obtain ⟨m1, m2, d1, σ1, vars2, σ2, e1, e2⟩ := plain
  obtain ⟨fd, as, body, hin⟩ := fnIn_of (c := c) q2
  obtain ⟨oc, od, sl, ho⟩ := hin.at_
  obtain ⟨o, hol, hc, n, hd⟩ := hL
  have hr : Rv c.C (allF s.heap) [] (.ref l) (.lst (zs.map .int)) := .lst (n := n) hol hc hd (argInts hI)
  refine mainOf (vs := [.ref l]) (lev_ok H S.S (fun h => falseE h) hs k) (lev_ok (c := c.warm) H S.S2 (fun _ => rfl) hs2 k) hin hb (q3 _ _ _ _ ho _ hin.ok.body) (ds := [.lst (zs.map .int)]) (by rw [hnp]; rfl) e1 e2 rfl (goodCaller hk) (startG S.hB S.hS S.hp) (.cons hr .nil) fun F' r s' le g' rr => ?_
  obtain rfl := (rr.inv : r = .bool true)
  refine hQ s' (fun b o e => g'.f b o (le.o b o e)) ?_ ?_
  · exact g'.os.trans (congrArg Shared.os S.hS)
  · exact g'.gens.trans (congrArg Shared.gens S.hS)
end
end Ev
end
section
set_option maxRecDepth 100000
set_option autoImplicit false
set_option linter.all false
namespace Ev
open PySem PySem.W PySem.Calls PyProof.Rows PySem.SeqAt
noncomputable def frgbtohsv : Fn := ⟨14, 3, [
  .asg [(.var 3)] (.bi .max [(.var 0), (.var 1), (.var 2)]),
  .asg [(.var 4)] (.bi .min [(.var 0), (.var 1), (.var 2)]),
  .asg [(.var 5)] (.bin .Sub (.var 3) (.var 4)),
  .asg [(.var 6)] (.var 3),
  .ite (.cmp .Eq (.var 4) (.var 3)) [.ret (.tup [(.lit (.flt 0)), (.lit (.flt 0)), (.var 6)])] [],
  .asg [(.var 7)] (.bin .Div (.var 5) (.var 3)),
  .asg [(.var 8)] (.bin .Div (.bin .Sub (.var 3) (.var 0)) (.var 5)),
  .asg [(.var 9)] (.bin .Div (.bin .Sub (.var 3) (.var 1)) (.var 5)),
  .asg [(.var 10)] (.bin .Div (.bin .Sub (.var 3) (.var 2)) (.var 5)),
  .ite (.cmp .Eq (.var 0) (.var 3)) [.asg [(.var 11)] (.bin .Sub (.var 10) (.var 9))] [.ite (.cmp .Eq (.var 1) (.var 3)) [.asg [(.var 11)] (.bin .Sub (.bin .Add (.lit (.flt 4611686018427387904)) (.var 8)) (.var 10))] [.asg [(.var 11)] (.bin .Sub (.bin .Add (.lit (.flt 4616189618054758400)) (.var 9)) (.var 8))]],
  .asg [(.var 11)] (.bin .Mod (.bin .Div (.var 11) (.lit (.flt 4618441417868443648))) (.lit (.flt 4607182418800017408))),
  .ret (.tup [(.var 11), (.var 7), (.var 6)])]⟩
noncomputable def fheappush : Fn := ⟨4, 2, [
  .expr (.append (.var 0) (.var 1)),
  .expr (.mcall 2 (.var 0) [(.lit (.int 0)), (.bin .Sub (.bi .len [(.var 0)]) (.lit (.int 1)))])]⟩
noncomputable def fheappop : Fn := ⟨4, 1, [
  .asg [(.var 1)] (.pop (.var 0)),
  .ite (.var 0) [.asg [(.var 2)] (.idx (.var 0) (.lit (.int 0))), .setIdx (.var 0) (.lit (.int 0)) (.var 1), .expr (.mcall 3 (.var 0) [(.lit (.int 0))]), .ret (.var 2)] [],
  .ret (.var 1)]⟩
noncomputable def fsiftdown : Fn := ⟨6, 3, [
  .asg [(.var 3)] (.idx (.var 0) (.var 2)),
  .wh (.cmp .Gt (.var 2) (.var 1)) [.asg [(.var 4)] (.bin .RShift (.bin .Sub (.var 2) (.lit (.int 1))) (.lit (.int 1))), .asg [(.var 5)] (.idx (.var 0) (.var 4)), .ite (.cmp .Lt (.var 3) (.var 5)) [.setIdx (.var 0) (.var 2) (.var 5), .asg [(.var 2)] (.var 4), .cont] [], .brk],
  .setIdx (.var 0) (.var 2) (.var 3)]⟩
noncomputable def fsiftup : Fn := ⟨9, 2, [
  .asg [(.var 2)] (.bi .len [(.var 0)]),
  .asg [(.var 3)] (.var 1),
  .asg [(.var 4)] (.idx (.var 0) (.var 1)),
  .asg [(.var 5)] (.bin .Add (.bin .Mult (.lit (.int 2)) (.var 1)) (.lit (.int 1))),
  .wh (.cmp .Lt (.var 5) (.var 2)) [.asg [(.var 6)] (.bin .Add (.var 5) (.lit (.int 1))), .ite (.both (.cmp .Lt (.var 6) (.var 2)) (.not (.cmp .Lt (.idx (.var 0) (.var 5)) (.idx (.var 0) (.var 6))))) [.asg [(.var 5)] (.var 6)] [], .setIdx (.var 0) (.var 1) (.idx (.var 0) (.var 5)), .asg [(.var 1)] (.var 5), .asg [(.var 5)] (.bin .Add (.bin .Mult (.lit (.int 2)) (.var 1)) (.lit (.int 1)))],
  .setIdx (.var 0) (.var 1) (.var 4),
  .expr (.mcall 2 (.var 0) [(.var 3), (.var 1)])]⟩
noncomputable def flongestrunofspaces : Fn := ⟨5, 1, [
  .asg [(.tup [1, 2])] (.attr (.var 0) 3),
  .ret (.bi .max [(.bin .Sub (.bi .len [(.var 1)]) (.lit (.int 1))), (.var 2)])]⟩
noncomputable def findentlevel : Fn := ⟨8, 2, [
  .asg [(.tup [2, 3])] (.attr (.var 0) 3),
  .asg [(.var 4)] (.lit (.int 0)),
  .for (.var 5) (.bi .range [(.var 1), (.bi .len [(.var 2)])]) [.asg [(.var 4)] (.bin .Add (.var 4) (.bin .Mult (.bin .FloorDiv (.var 5) (.var 1)) (.idx (.var 2) (.var 5))))],
  .ret (.bin .Add (.var 3) (.bin .Mult (.var 1) (.bin .Add (.var 4) (.attr (.var 0) 2))))]⟩
noncomputable def fnotequalwitness : Fn := ⟨7, 2, [
  .asg [(.var 2)] (.bin .Add (.bi .max [(.meth 100 (.var 0) []), (.meth 100 (.var 1) [])]) (.lit (.int 1))),
  .asg [(.var 3)] (.lst []),
  .for (.var 4) (.bi .range [(.lit (.int 1)), (.bin .Add (.var 2) (.lit (.int 1)))]) [.ite (.cmp .NotEq (.meth 101 (.var 0) [(.var 4)]) (.meth 101 (.var 1) [(.var 4)])) [.expr (.append (.var 3) (.tup [(.var 4), (.meth 101 (.var 0) [(.var 4)]), (.meth 101 (.var 1) [(.var 4)])]))] []],
  .ret (.var 3)]⟩
noncomputable def finit : Fn := ⟨12, 2, [
  .setAttr (.var 0) 0 (.var 1),
  .asg [(.tup [2, 3])] (.tup [(.lit (.str [32])), (.lit (.str [9]))]),
  .asg [(.var 4)] (.lst []),
  .asg [(.var 5), (.var 6), (.var 7)] (.lit (.int 0)),
  .for (.var 8) (.attr (.var 0) 0) [.ite (.cmp .Eq (.var 8) (.var 2)) [.asg [(.var 6)] (.bin .Add (.var 6) (.lit (.int 1))), .asg [(.var 5)] (.bin .Add (.var 5) (.lit (.int 1)))] [.ite (.cmp .Eq (.var 8) (.var 3)) [.asg [(.var 6)] (.bin .Add (.var 6) (.lit (.int 1))), .asg [(.var 7)] (.bin .Add (.var 7) (.lit (.int 1))), .ite (.cmp .GtE (.var 5) (.bi .len [(.var 4)])) [.asg [(.var 4)] (.bin .Add (.var 4) (.rep (.lit (.int 0)) (.bin .Add (.bin .Sub (.var 5) (.bi .len [(.var 4)])) (.lit (.int 1)))))] [], .setIdx (.var 4) (.var 5) (.bin .Add (.idx (.var 4) (.var 5)) (.lit (.int 1))), .asg [(.var 5)] (.lit (.int 0))] [.brk]]],
  .setAttr (.var 0) 1 (.var 6),
  .setAttr (.var 0) 2 (.var 7),
  .setAttr (.var 0) 3 (.tup [(.bi .tuple [(.var 4)]), (.var 5)]),
  .setAttr (.var 0) 4 (.cmp .LtE (.bi .len [(.var 4)]) (.lit (.int 1)))]⟩
end Ev
end
section
set_option maxRecDepth 100000
set_option autoImplicit false
set_option linter.all false
set_option maxHeartbeats 4000000
namespace Ev
open PySem
section
variable {Δ : Dl} {n : Nat} {vars vars' vars2 : Vars} {σ σ' σ1 σ2 : Sto}
/-! loops -/
section
variable {c : Vars → Sto → Option (Bool × Sto)} {f : Vars → Sto → Option (Flw × Vars × Sto)}
theorem wh_stop (h : c vars σ = some (false, σ1)) : whD c f (n + 1) vars σ = some (.next, vars, σ1) := by
  show ((c vars σ).bind fun p => if p.1 = true then (f vars p.2).bind fun r => aft r (whD c f n) else some (.next, vars, p.2)) = _
  rw [h]; rfl
theorem wh_turn {r : Flw × Vars × Sto} (h : c vars σ = some (true, σ1)) (h2 : f vars σ1 = some r) : whD c f (n + 1) vars σ = aft r (whD c f n) := by
  show ((c vars σ).bind fun p => if p.1 = true then (f vars p.2).bind fun r => aft r (whD c f n) else some (.next, vars, p.2)) = _
  rw [h]
  show (f vars σ1).bind _ = _
  rw [h2]; rfl
end
theorem for_turn {f : D → Vars → Sto → Option (Flw × Vars × Sto)} {d : D} {ds : List D} {r : Flw × Vars × Sto} (h : f d vars σ = some r) : forD f (d :: ds) vars σ = aft r (forD f ds) := by
  show (f d vars σ).bind _ = _
  rw [h]; rfl
/-! statements, one after the other -/
theorem exSs_cons {st : S} {ss : List S} (h : exS Δ n st vars σ = some (.next, vars', σ')) : exSs Δ (n + 1) (st :: ss) vars σ = exSs Δ n ss vars' σ' := by
  show (match exS Δ n st vars σ with | some (.next, vars, σ) => exSs Δ n ss vars σ | r => r) = _
  rw [h]
theorem exSs_ret {st : S} {ss : List S} {d : D} (h : exS Δ n st vars σ = some (.ret d, vars', σ')) : exSs Δ (n + 1) (st :: ss) vars σ = some (.ret d, vars', σ') := by
  show (match exS Δ n st vars σ with | some (.next, vars, σ) => exSs Δ n ss vars σ | r => r) = _
  rw [h]
theorem seq1_of {α β : Type} {f : Sto → Option (α × Sto)} {k : α → Sto → Option β} {x : α} (h : f σ = some (x, σ1)) : seq1 f k σ = k x σ1 := by unfold seq1; rw [h]; rfl
theorem exS_if {c : E} {a b : List S} {t : Bool} (h : trE Δ n c vars σ = some (t, σ')) : exS Δ (n + 1) (.ite c a b) vars σ = if t then exSs Δ n a vars σ' else exSs Δ n b vars σ' := seq1_of (k := fun t σ => if t = true then exSs Δ n a vars σ else exSs Δ n b vars σ) h
theorem exS_ifT {c : E} {a b : List S} {r : Option (Flw × Vars × Sto)} (h : trE Δ n c vars σ = some (true, σ1)) (k : exSs Δ n a vars σ1 = r) : exS Δ (n + 1) (.ite c a b) vars σ = r := (exS_if h).trans k
theorem exS_ifF {c : E} {a b : List S} {r : Option (Flw × Vars × Sto)} (h : trE Δ n c vars σ = some (false, σ1)) (k : exSs Δ n b vars σ1 = r) : exS Δ (n + 1) (.ite c a b) vars σ = r := (exS_if h).trans k
theorem exS_asgs {ts : List T} {e : E} {d : D} (h : evE Δ n e vars σ = some (d, σ')) (hv : asgTs ts d vars = some vars') : exS Δ (n + 1) (.asg ts e) vars σ = some (.next, vars', σ') := (seq1_of (k := fun d σ => (asgTs ts d vars).map fun vars => (Flw.next, vars, σ)) h).trans (by rw [hv]; rfl)
theorem exS_asg1 {i : Nat} {e : E} {d : D} (h : evE Δ n e vars σ = some (d, σ')) (hv : setVar vars i d = some vars') : exS Δ (n + 1) (.asg [.var i] e) vars σ = some (.next, vars', σ') := exS_asgs h (by show (setVar vars i d).bind _ = _; rw [hv]; rfl)
theorem exS_ret {e : E} {d x : D} (h : evE Δ n e vars σ = some (x, σ1)) (hf : frz σ1 x = some (d, σ2)) : exS Δ (n + 1) (.ret e) vars σ = some (.ret d, vars, σ2) := (seq1_of (k := fun (d : D) (σ : Sto) => (Ev.frz σ d).map fun (p : D × Sto) => (Flw.ret p.1, vars, p.2)) h).trans (by show (Ev.frz σ1 x).map _ = _; rw [hf]; rfl)
theorem evE_call {f : Nat} {es : List E} {ds : List D} {d : D} (h : evEs Δ n es vars σ = some (ds, σ')) (hp : D.pures ds = true) (hf : Δ.fns f ds = some d) : evE Δ (n + 1) (.call f es) vars σ = some (d, σ') := (seq1_of h).trans (by unfold callK; rw [if_pos hp, hf]; rfl)
theorem runP_of {f : Fn} {args : List D} {d : D} {v : Vars} (hl : args.length = f.np) (hp : D.pures args = true) (h : exSs Δ n f.body (startVars f args) [] = some (.ret d, v, σ)) (hd : d.pure = true) : runP Δ n f args = some d := by
  unfold runP
  rw [if_pos (by rw [hl, hp, beq_self_eq_true]; rfl), h]
  show (if d.pure = true then some d else none) = _
  rw [if_pos hd]
theorem exSs_one {st : S} (h : exS Δ (n + 1) st vars σ = some (.next, vars', σ')) : exSs Δ (n + 1 + 1) [st] vars σ = some (.next, vars', σ') := (exSs_cons h).trans rfl
/-- it ends with that answer -/
noncomputable def Rets (Δ : Dl) (n : Nat) (ss : List S) (vars : Vars) (σ : Sto) (d : D) : Prop := ∃ v s, exSs Δ n ss vars σ = some (.ret d, v, s)
theorem Rets.step {st : S} {ss : List S} {d : D} (h : exS Δ n st vars σ = some (.next, vars', σ')) (k : Rets Δ n ss vars' σ' d) : Rets Δ (n + 1) (st :: ss) vars σ d := let ⟨v, s, k⟩ := k; ⟨v, s, (exSs_cons h).trans k⟩
theorem Rets.asg {i : Nat} {e : E} {ss : List S} {d x : D} (h : evE Δ n e vars σ = some (x, σ)) (hv : setVar vars i x = some vars') (k : Rets Δ (n + 1) ss vars' σ d) : Rets Δ (n + 1 + 1) (.asg [.var i] e :: ss) vars σ d := .step (exS_asg1 h hv) k
theorem Rets.asgs {ts : List T} {e : E} {ss : List S} {d x : D} (h : evE Δ n e vars σ = some (x, σ)) (hv : asgTs ts x vars = some vars') (k : Rets Δ (n + 1) ss vars' σ d) : Rets Δ (n + 1 + 1) (.asg ts e :: ss) vars σ d := .step (exS_asgs h hv) k
theorem Rets.ret {e : E} {ss : List S} {d x : D} (h : evE Δ n e vars σ = some (x, σ)) (hf : frz σ x = some (d, σ2)) : Rets Δ (n + 1 + 1) (.ret e :: ss) vars σ d := ⟨vars, σ2, exSs_ret (exS_ret h hf)⟩
theorem Rets.ifTrue {c : E} {a b ss : List S} {d : D} (h : trE Δ n c vars σ = some (true, σ)) (k : Rets Δ n a vars σ d) : Rets Δ (n + 1 + 1) (.ite c a b :: ss) vars σ d := let ⟨v, s, k⟩ := k; ⟨v, s, exSs_ret ((exS_if h).trans k)⟩
theorem Rets.skip {c : E} {a ss : List S} {d : D} (h : trE Δ (n + 1) c vars σ = some (false, σ)) (k : Rets Δ (n + 1 + 1) ss vars σ d) : Rets Δ (n + 1 + 1 + 1) (.ite c a [] :: ss) vars σ d := .step ((exS_if h).trans rfl) k
theorem Rets.run {f : Fn} {args : List D} {d : D} (h : Rets Δ n f.body (startVars f args) [] d) (hl : args.length = f.np) (hp : D.pures args = true) (hd : d.pure = true) : runP Δ n f args = some d := let ⟨v, s, h⟩ := h; runP_of hl hp h hd
end
theorem res_pure {σ : Sto} {d : D} (h : d.pure = true) : res σ d = some d := by cases d <;> first | rfl | exact falseE h
theorem res_int {σ : Sto} {i : Int} : res σ (.int i) = some (.int i) := rfl
theorem res_bool {σ : Sto} {i : Bool} : res σ (.bool i) = some (.bool i) := rfl
theorem res_str {σ : Sto} {i : List Nat} : res σ (.str i) = some (.str i) := rfl
theorem res_lst {σ : Sto} {i : List D} : res σ (.lst i) = some (.lst i) := rfl
theorem res_tup {σ : Sto} {i : List D} : res σ (.tup i) = some (.tup i) := rfl
theorem res_at {σ : Sto} {l : Nat} : res σ (.loc l) = (match σ[l]? with
    | some (some (.lst xs)) => some (.lst xs)
    | _ => none) := rfl
theorem res_loc {σ : Sto} {l : Nat} {xs : List D} (h : σ[l]? = some (some (.lst xs))) : res σ (.loc l) = some (.lst xs) := by rw [res_at, h]
theorem ltD_int {a b : Int} : ltD (.int a) (.int b) = some (decide (a < b)) := by rw [ltD]; rfl
/-! expressions, step by step -/
theorem lstAt_of {σ : Sto} {l : Nat} {xs : List D} (h : σ[l]? = some (some (.lst xs))) : lstAt σ (.loc l) = some (l, xs) := by
  show (match σ[l]? with | some (some (.lst xs)) => some (l, xs) | _ => none) = _
  rw [h]
section
variable {Δ : Dl} {n : Nat} {vars vars' vars2 : Vars} {σ σ' σ1 σ2 σ3 : Sto} {a b e : E} {x y d : D} {xs : List D}
theorem evEs_cons {es : List E} (h1 : evE Δ n a vars σ = some (x, σ1)) (h2 : evEs Δ n es vars σ1 = some (xs, σ2)) : evEs Δ (n + 1) (a :: es) vars σ = some (x :: xs, σ2) :=
  (seq1_of (k := fun d => seq1 (evEs Δ n es vars) fun ds σ => some (d :: ds, σ)) h1).trans ((seq1_of (k := fun ds σ => some (x :: ds, σ)) h2).trans rfl)
theorem evE_bin {op : Operator} (h1 : evE Δ n a vars σ = some (x, σ1)) (h2 : evE Δ n b vars σ1 = some (y, σ2)) : evE Δ (n + 1) (.bin op a b) vars σ = binK Δ op x y σ2 :=
  (seq1_of (k := fun x => seq1 (evE Δ n b vars) (binK Δ op x)) h1).trans (seq1_of h2)
/-- of two ints -/
theorem evE_ii {op : Operator} {i j k : Int} (h1 : evE Δ n a vars σ = some (.int i, σ1)) (h2 : evE Δ n b vars σ1 = some (.int j, σ2)) (h : binII op i j = some (.int k)) : evE Δ (n + 1) (.bin op a b) vars σ = some (.int k, σ2) := by
  rw [evE_bin h1 h2]
  show binR Δ op (.int i) (.int j) σ2 = _
  have h0 : addL op (.int i) (.int j) = none := by cases op <;> rfl
  unfold binR
  rw [h0]
  show (binII op i j).bind _ = _
  rw [h]; rfl
theorem evE_idx {k : Int} (h1 : evE Δ n a vars σ = some (x, σ1)) (h2 : evE Δ n b vars σ1 = some (.int k, σ2)) (hr : res σ2 x = some y) (hs : seqD y = some xs) (h0 : 0 ≤ k) (hk : small k = true) (hg : xs[k.toNat]? = some d) : evE Δ (n + 1) (.idx a b) vars σ = some (d, σ2) :=
  (seq1_of (k := fun x => seq1 (evE Δ n b vars) (idxK x)) h1).trans ((seq1_of h2).trans (by
    show (res σ2 x).bind _ = _
    rw [hr]
    show (((seqD y).bind fun xs => if 0 ≤ k ∧ small k = true then xs[k.toNat]? else none).map _) = _
    rw [hs]
    show ((if 0 ≤ k ∧ small k = true then xs[k.toNat]? else none).map _) = _
    rw [if_pos ⟨h0, hk⟩, hg]; rfl))
theorem evE_len1 (h1 : evE Δ n a vars σ = some (x, σ1)) (hr : res σ1 x = some (.lst xs)) (hl : xs.length ≤ maxLen) : evE Δ (n + 1 + 1) (.bi .len [a]) vars σ = some (.int xs.length, σ1) := by
  have h : evEs Δ (n + 1) [a] vars σ = some ([x], σ1) := (seq1_of (k := fun d => seq1 (evEs Δ n [] vars) fun ds σ => some (d :: ds, σ)) h1).trans (by cases n <;> first | rfl | (cases h1))
  refine (seq1_of (k := biK .len) h).trans ?_
  show ((res σ1 x).bind fun z => (ress σ1 []).map (z :: ·)).bind _ = _
  rw [hr]
  show (if xs.length ≤ maxLen then some (D.int xs.length) else none).map _ = _
  rw [if_pos hl]; rfl
theorem evE_cmp {op : CmpOp} {x' y' : D} {r : Bool} (h1 : evE Δ n a vars σ = some (x, σ1)) (h2 : evE Δ n b vars σ1 = some (y, σ2)) (hx : res σ2 x = some x') (hy : res σ2 y = some y') (h : cmpR op x' y' = some r) : evE Δ (n + 1) (.cmp op a b) vars σ = some (.bool r, σ2) :=
  (seq1_of (k := fun x => seq1 (evE Δ n b vars) (cmpK op x)) h1).trans ((seq1_of h2).trans (by
    show (res σ2 x).bind _ = _
    rw [hx]
    show (res σ2 y).bind _ = _
    rw [hy]
    show (cmpR op x' y').map _ = _
    rw [h]; rfl))
theorem tr_cmp {op : CmpOp} {x' y' : D} {r : Bool} (h1 : evE Δ n a vars σ = some (x, σ1)) (h2 : evE Δ n b vars σ1 = some (y, σ2)) (hx : res σ2 x = some x') (hy : res σ2 y = some y') (h : cmpR op x' y' = some r) : trE Δ (n + 1 + 1) (.cmp op a b) vars σ = some (r, σ2) :=
  (seq1_of (k := fun x σ => (truK x σ).map fun t => (t, σ)) (evE_cmp h1 h2 hx hy h)).trans rfl
theorem evE_addl {xs ys : List D} (h1 : evE Δ n a vars σ = some (x, σ1)) (h2 : evE Δ n b vars σ1 = some (y, σ2)) (hx : res σ2 x = some (.lst xs)) (hy : res σ2 y = some (.lst ys)) (h : xs.length + ys.length ≤ maxLen) : evE Δ (n + 1) (.bin .Add a b) vars σ = some (.loc σ2.length, σ2 ++ [some (.lst (xs ++ ys))]) := by
  rw [evE_bin h1 h2]
  show (res σ2 x).bind _ = _
  rw [hx]
  show (res σ2 y).bind _ = _
  rw [hy]
  show (if xs.length + ys.length ≤ maxLen then _ else none) = _
  rw [if_pos h]
theorem evE_rep {k : Int} (h1 : evE Δ n a vars σ = some (x, σ1)) (h2 : evE Δ n b vars σ1 = some (.int k, σ2)) (hk : small k = true) (hm : k.toNat ≤ maxLen) : evE Δ (n + 1) (.rep a b) vars σ = some (.lst (List.replicate k.toNat x), σ2) :=
  (seq1_of (k := fun x => seq1 (evE Δ n b vars) (repK x)) h1).trans ((seq1_of h2).trans (by
    show (if (small k && decide (k.toNat ≤ maxLen)) = true then _ else none) = _
    rw [if_pos (by rw [hk, decide_eq_true hm]; rfl)]))
theorem exS_setIdx {o i : E} {k : Int} {l : Nat} (h1 : evE Δ n e vars σ = some (d, σ1)) (h2 : evE Δ n o vars σ1 = some (.loc l, σ2)) (h3 : evE Δ n i vars σ2 = some (.int k, σ3)) (hl : σ3[l]? = some (some (.lst xs))) (h0 : 0 ≤ k) (hk : small k = true) (hg : k.toNat < xs.length) :
    exS Δ (n + 1) (.setIdx o i e) vars σ = some (.next, vars, σ3.set l (some (.lst (xs.set k.toNat d)))) :=
  (seq1_of (k := fun d => seq1 (evE Δ n o vars) fun x => seq1 (evE Δ n i vars) (setIdxK vars d x)) h1).trans ((seq1_of (k := fun x => seq1 (evE Δ n i vars) (setIdxK vars d x)) h2).trans ((seq1_of h3).trans (by
    show (lstAt σ3 (.loc l)).bind _ = _
    have h4 : lstAt σ3 (.loc l) = some (l, xs) := lstAt_of hl
    rw [h4]
    show (if 0 ≤ k ∧ small k = true ∧ k.toNat < xs.length then _ else none) = _
    rw [if_pos ⟨h0, hk, hg⟩])))
end
theorem small_le {b : Nat} (h : b ≤ 10000000) : small (b : Int) = true := by unfold small; exact decide_eq_true (by omega)
/-! comprehensions -/
/-- a comprehension whose element leaves the store alone -/
theorem compD_inv {f : D → Vars → Sto → Option (Option D × Vars × Sto)} (I : Vars → Prop) (h : D → Option D) {σ : Sto} : ∀ {ds : List D} {vs : Vars}, (∀ d ∈ ds, ∀ vs, I vs → ∃ vs', f d vs σ = some (h d, vs', σ) ∧ I vs') → I vs → compD f ds vs σ = some (ds.filterMap h, σ)
  | [], _, _, _ => rfl
  | d :: ds, vs, hf, i => by
    obtain ⟨vs', e, i'⟩ := hf d (List.mem_cons_self) vs i
    have ih := compD_inv I h (ds := ds) (vs := vs') (fun d hd => hf d (List.mem_cons_of_mem _ hd)) i'
    show ((f d vs σ).bind fun r => (compD f ds r.2.1 r.2.2).map fun q => (consO r.1 q.1, q.2)) = _
    rw [e]
    show ((compD f ds vs' σ).map fun q => (consO (h d) q.1, q.2)) = _
    rw [ih]
    cases q : h d with
    | none => rw [List.filterMap_cons_none q]; rfl
    | some r => rw [List.filterMap_cons_some q]; rfl
theorem evE_comp {Δ : Dl} {n : Nat} {ini : List (Option Nat)} {elt it : E} {t : T} {ifs : List E} {vars : Vars} {σ σ' σ2 : Sto} {ds rs : List D} (hi : itE Δ n it vars σ = some (ds, σ')) (hc : capOk vars ini = true) (hl : ds.length ≤ maxLen)
    (h : compD (turnD t (fun vs σ => tesE Δ n ifs vs σ) (fun vs σ => evE Δ n elt vs σ)) ds (capture vars ini) σ' = some (rs, σ2)) : evE Δ (n + 1) (.comp ini elt t it ifs) vars σ = some (.lst rs, σ2) :=
  (seq1_of (k := fun (ds : List D) (σ : Sto) => if capOk vars ini && decide (ds.length ≤ maxLen) then (compD (turnD t (fun vs σ => tesE Δ n ifs vs σ) (fun vs σ => evE Δ n elt vs σ)) ds (capture vars ini) σ).map fun (p : List D × Sto) => (D.lst p.1, p.2) else none) hi).trans (by
    show (if (capOk vars ini && decide (ds.length ≤ maxLen)) = true then (compD (turnD t (fun vs σ => tesE Δ n ifs vs σ) (fun vs σ => evE Δ n elt vs σ)) ds (capture vars ini) σ').map (fun p => (D.lst p.1, p.2)) else none) = _
    rw [if_pos (by rw [hc, decide_eq_true hl]; rfl), h]; rfl)
noncomputable def initBody : List S := [.ite (.cmp .Eq (.var 8) (.var 2)) [.asg [(.var 6)] (.bin .Add (.var 6) (.lit (.int 1))), .asg [(.var 5)] (.bin .Add (.var 5) (.lit (.int 1)))] [.ite (.cmp .Eq (.var 8) (.var 3)) [.asg [(.var 6)] (.bin .Add (.var 6) (.lit (.int 1))), .asg [(.var 7)] (.bin .Add (.var 7) (.lit (.int 1))), .ite (.cmp .GtE (.var 5) (.bi .len [(.var 4)])) [.asg [(.var 4)] (.bin .Add (.var 4) (.rep (.lit (.int 0)) (.bin .Add (.bin .Sub (.var 5) (.bi .len [(.var 4)])) (.lit (.int 1)))))] [], .setIdx (.var 4) (.var 5) (.bin .Add (.idx (.var 4) (.var 5)) (.lit (.int 1))), .asg [(.var 5)] (.lit (.int 0))] [.brk]]]
/-- one run more of that length -/
noncomputable def bump : List Int → Nat → List Int
  | [], 0 => [1]
  | [], b + 1 => 0 :: bump [] b
  | c :: cs, 0 => (c + 1) :: cs
  | c :: cs, b + 1 => c :: bump cs b
theorem bump_len : ∀ (cs : List Int) (b : Nat), (bump cs b).length = max cs.length (b + 1)
  | [], 0 => rfl
  | [], b + 1 => by simp [bump, bump_len [] b]
  | c :: cs, 0 => by simp [bump]
  | c :: cs, b + 1 => by simp [bump, bump_len cs b]
theorem bump_in : ∀ {cs : List Int} {b : Nat}, b < cs.length → ∃ c, cs[b]? = some c ∧ cs.set b (c + 1) = bump cs b
  | c :: cs, 0, _ => ⟨c, rfl, rfl⟩
  | c :: cs, b + 1, h => by
    obtain ⟨c', h1, h2⟩ := bump_in (cs := cs) (b := b) (by simpa using h)
    exact ⟨c', by simpa using h1, by simp [bump, h2]⟩
theorem bump_out : ∀ {cs : List Int} {b : Nat}, cs.length ≤ b → (cs ++ List.replicate (b - cs.length + 1) 0).set b 1 = bump cs b ∧ (cs ++ List.replicate (b - cs.length + 1) 0)[b]? = some 0
  | [], 0, _ => ⟨rfl, rfl⟩
  | [], b + 1, _ => by
    obtain ⟨h1, h2⟩ := bump_out (cs := []) (b := b) (by simp)
    simp [List.replicate_succ] at h1 h2 ⊢
    simp [bump, h1]
    exact h2
  | c :: cs, 0, h => by simp at h
  | c :: cs, b + 1, h => by
    obtain ⟨h1, h2⟩ := bump_out (cs := cs) (b := b) (by simpa using h)
    simp [bump, h1, h2]
noncomputable abbrev iv (t : List Nat) (l : Nat) (b n nt : Int) (x8 x9 x10 x11 : Option D) : Vars := [some (.loc 0), some (.str t), some (.str [32]), some (.str [9]), some (.loc l), some (.int b), some (.int n), some (.int nt), x8, x9, x10, x11]
theorem init_sp {Δ : Dl} {t : List Nat} {l : Nat} {b n nt : Int} {x9 x10 x11 : Option D} {σ : Sto} :
    exSs Δ 194 initBody (iv t l b n nt (some (.str [32])) x9 x10 x11) σ = some (.next, iv t l (b + 1) (n + 1) nt (some (.str [32])) x9 x10 x11, σ) := rfl
theorem init_x {Δ : Dl} {t : List Nat} {l : Nat} {b n nt : Int} {x9 x10 x11 : Option D} {σ : Sto} :
    exSs Δ 194 initBody (iv t l b n nt (some (.str [120])) x9 x10 x11) σ = some (.brk, iv t l b n nt (some (.str [120])) x9 x10 x11, σ) := rfl
noncomputable def tabBody : List S := [.asg [(.var 6)] (.bin .Add (.var 6) (.lit (.int 1))), .asg [(.var 7)] (.bin .Add (.var 7) (.lit (.int 1))), .ite (.cmp .GtE (.var 5) (.bi .len [(.var 4)])) [.asg [(.var 4)] (.bin .Add (.var 4) (.rep (.lit (.int 0)) (.bin .Add (.bin .Sub (.var 5) (.bi .len [(.var 4)])) (.lit (.int 1)))))] [], .setIdx (.var 4) (.var 5) (.bin .Add (.idx (.var 4) (.var 5)) (.lit (.int 1))), .asg [(.var 5)] (.lit (.int 0))]
section
variable {Δ : Dl} {t : List Nat} {l b : Nat} {n nt : Int} {x8 x9 x10 x11 : Option D} {σ σ' : Sto} {cs cs' : List Int} {c : Int}
/-- what follows the test -/
theorem tab_set (hl : σ[l]? = some (some (.lst (cs.map .int)))) (hb : cs[b]? = some c) (h2 : b ≤ 10000) :
    exSs Δ 187 (tabBody.drop 3) (iv t l b n nt x8 x9 x10 x11) σ = some (.next, iv t l 0 n nt x8 x9 x10 x11, σ.set l (some (.lst ((cs.set b (c + 1)).map .int)))) := by
  have hsm : small (b : Int) = true := small_le (Nat.le_trans h2 (by decide))
  have hg : (cs.map D.int)[(b : Int).toNat]? = some (.int c) := by rw [List.getElem?_map, Int.toNat_natCast, hb]; rfl
  have hlt : (b : Int).toNat < (cs.map D.int).length := (List.getElem?_eq_some_iff.mp hg).1
  rw [List.map_set]
  exact (exSs_cons (exS_setIdx (evE_ii (evE_idx (a := .var 4) (b := .var 5) rfl rfl (res_loc hl) rfl (Int.natCast_nonneg b) hsm hg) (b := .lit (.int 1)) rfl rfl) (o := .var 4) (i := .var 5) rfl rfl hl (Int.natCast_nonneg b) hsm hlt)).trans rfl
theorem tab_in (hl : σ[l]? = some (some (.lst (cs.map .int)))) (h1 : cs.length ≤ 10000) (hb : b < cs.length) (hc : cs[b]? = some c) :
    exSs Δ 190 tabBody (iv t l b n nt x8 x9 x10 x11) σ = some (.next, iv t l 0 (n + 1) (nt + 1) x8 x9 x10 x11, σ.set l (some (.lst ((cs.set b (c + 1)).map .int)))) := by
  have hk : (cs.map D.int).length ≤ maxLen := by rw [List.length_map]; exact Nat.le_trans h1 (by decide)
  have hq : decide ((b : Int) ≥ ((cs.map D.int).length : Int)) = false := by rw [List.length_map]; exact decide_eq_false (by omega)
  refine (exSs_cons (exS_asg1 rfl rfl)).trans ((exSs_cons (exS_asg1 rfl rfl)).trans ((exSs_cons ((exS_if (tr_cmp (a := .var 5) rfl (evE_len1 (a := .var 4) rfl (res_loc hl) hk) rfl rfl (show cmpR .GtE (.int (b : Int)) (.int ((cs.map D.int).length : Int)) = some false from congrArg some hq))).trans rfl)).trans ?_))
  exact tab_set hl hc (Nat.le_of_lt (Nat.lt_of_lt_of_le hb h1))
theorem fill_len {m b : Nat} (h : m ≤ b) : ((b : Int) - (m : Int) + 1).toNat = b - m + 1 := by omega
theorem fill_map (cs : List Int) (k : Nat) : cs.map D.int ++ List.replicate k (.int 0) = (cs ++ List.replicate k 0).map .int := by rw [List.map_append, List.map_replicate]
theorem tab_out (hl : σ[l]? = some (some (.lst (cs.map .int)))) (hb : cs.length ≤ b) (h2 : b ≤ 10000) :
    exSs Δ 190 tabBody (iv t l b n nt x8 x9 x10 x11) σ = some (.next, iv t σ.length 0 (n + 1) (nt + 1) x8 x9 x10 x11, (σ ++ [some (MObj.lst ((cs ++ List.replicate (b - cs.length + 1) 0).map .int))]).set σ.length (some (.lst (((cs ++ List.replicate (b - cs.length + 1) 0).set b 1).map .int)))) := by
  have hk : (cs.map D.int).length ≤ maxLen := by rw [List.length_map]; exact Nat.le_trans (Nat.le_trans hb h2) (by decide)
  have hq : decide ((b : Int) ≥ ((cs.map D.int).length : Int)) = true := by rw [List.length_map]; exact decide_eq_true (by omega)
  have hr : ((b : Int) - ((cs.map D.int).length : Int) + 1).toNat = b - cs.length + 1 := by rw [List.length_map]; exact fill_len hb
  have hs : small ((b : Int) - ((cs.map D.int).length : Int) + 1) = true := by rw [List.length_map]; unfold small; exact decide_eq_true (by omega)
  have hm : (b - cs.length + 1) ≤ maxLen := by unfold maxLen; omega
  have hz : (cs.map D.int).length + (List.replicate (b - cs.length + 1) (D.int 0)).length ≤ maxLen := by rw [List.length_map, List.length_replicate]; unfold maxLen; omega
  have e4 : evE Δ 184 (.bin .Add (.var 4) (.rep (.lit (.int 0)) (.bin .Add (.bin .Sub (.var 5) (.bi .len [(.var 4)])) (.lit (.int 1))))) (iv t l b (n + 1) (nt + 1) x8 x9 x10 x11) σ = some (.loc σ.length, σ ++ [some (MObj.lst (cs.map D.int ++ List.replicate (b - cs.length + 1) (.int 0)))]) := by
    rw [← hr] at hm hz ⊢
    exact evE_addl (a := .var 4) rfl (evE_rep (a := .lit (.int 0)) rfl (evE_ii (evE_ii (a := .var 5) rfl (evE_len1 (a := .var 4) rfl (res_loc hl) hk) rfl) (b := .lit (.int 1)) rfl rfl) hs hm) (res_loc hl) rfl hz
  refine (exSs_cons (exS_asg1 rfl rfl)).trans ((exSs_cons (exS_asg1 rfl rfl)).trans ((exSs_cons (exS_ifT (tr_cmp (a := .var 5) rfl (evE_len1 (a := .var 4) rfl (res_loc hl) hk) rfl rfl (show cmpR .GtE (.int (b : Int)) (.int ((cs.map D.int).length : Int)) = some true from congrArg some hq)) (exSs_one (exS_asg1 (i := 4) e4 rfl)))).trans ?_))
  rw [fill_map]
  exact tab_set (l := σ.length) (List.getElem?_concat_length ..) (bump_out hb).2 h2
theorem init_wrap {vars' : Vars} {σ' : Sto} (h : exSs Δ 190 tabBody (iv t l b n nt (some (.str [9])) x9 x10 x11) σ = some (.next, vars', σ')) : exSs Δ 194 initBody (iv t l b n nt (some (.str [9])) x9 x10 x11) σ = some (.next, vars', σ') :=
  exSs_one (exS_ifF (c := .cmp .Eq (.var 8) (.var 2)) rfl (exSs_one (exS_ifT (c := .cmp .Eq (.var 8) (.var 3)) rfl h)))
theorem init_tab (hl : σ[l]? = some (some (.lst (cs.map .int)))) (h1 : cs.length ≤ 10000) (h2 : b ≤ 10000) :
    ∃ l' σ', exSs Δ 194 initBody (iv t l b n nt (some (.str [9])) x9 x10 x11) σ = some (.next, iv t l' 0 (n + 1) (nt + 1) (some (.str [9])) x9 x10 x11, σ') ∧ σ'[l']? = some (some (.lst ((bump cs b).map .int))) ∧ (σ.length = σ'.length ∧ l' = l ∨ σ'.length = σ.length + 1 ∧ l' = σ.length) ∧ ∀ j, j < l → σ'[j]? = σ[j]? := by
  have hlt : l < σ.length := (List.getElem?_eq_some_iff.mp hl).1
  rcases Nat.lt_or_ge b cs.length with hb | hb
  · obtain ⟨c, e1, e2⟩ := bump_in hb
    have h := tab_in (Δ := Δ) (t := t) (n := n) (nt := nt) (x8 := some (.str [9])) (x9 := x9) (x10 := x10) (x11 := x11) hl h1 hb e1
    rw [e2] at h
    exact ⟨l, _, init_wrap h, List.getElem?_set_self hlt, .inl ⟨(List.length_set ..).symm, rfl⟩, fun j hj => List.getElem?_set_ne (Nat.ne_of_gt hj)⟩
  · have h := tab_out (Δ := Δ) (t := t) (n := n) (nt := nt) (x8 := some (.str [9])) (x9 := x9) (x10 := x10) (x11 := x11) hl hb h2
    rw [(bump_out hb).1] at h
    have hn : (σ ++ [some (MObj.lst ((cs ++ List.replicate (b - cs.length + 1) 0).map .int))]).length = σ.length + 1 := List.length_append ..
    refine ⟨σ.length, _, init_wrap h, List.getElem?_set_self (by rw [hn]; exact Nat.lt_succ_self _), .inr ⟨by rw [List.length_set, hn], rfl⟩, fun j hj => ?_⟩
    rw [List.getElem?_set_ne (Nat.ne_of_gt (Nat.lt_trans hj hlt)), List.getElem?_append_left (Nat.lt_trans hj hlt)]
end
end Ev
end
section
set_option maxRecDepth 100000
set_option autoImplicit false
set_option linter.all false
set_option maxHeartbeats 4000000
namespace Ev
open PySem
noncomputable def runText (runs : List Nat) : List Nat := runs.flatMap fun r => List.replicate r 32 ++ [9]
noncomputable def leadText (runs : List Nat) (tr : Nat) (rest : List Nat) : List Nat := runText runs ++ (List.replicate tr 32 ++ 120 :: rest)
noncomputable def runSum : List Nat → Nat
  | [] => 0
  | r :: rs => r + 1 + runSum rs
noncomputable def wsInst (text : List Nat) (cs : List Int) (tr n nt : Int) : D := .inst [(0, .str text), (1, .int n), (2, .int nt), (3, .tup [.tup (cs.map .int), .int tr]), (4, .bool (decide (cs.length ≤ 1)))]
theorem isStrings_app : ∀ (a b : List Nat), isStrings (a ++ b) = isStrings a ++ isStrings b
  | [], b => rfl
  | c :: a, b => by simp [isStrings, isStrings_app a b]
theorem pures_ints : ∀ (cs : List Int), D.pures (cs.map .int) = true
  | [] => rfl
  | c :: cs => by simp [D.pures, D.pure, pures_ints cs]
noncomputable def initF (Δ : Dl) : D → Vars → Sto → Option (Flw × Vars × Sto) := fun d vars σ => (asgT (.var 8) d vars).bind fun vars => exSs Δ 194 initBody vars σ
theorem initF_of {Δ : Dl} {t : List Nat} {l : Nat} {b n nt : Int} {x8 x9 x10 x11 : Option D} {σ : Sto} {d : D} {r : Option (Flw × Vars × Sto)} (h : exSs Δ 194 initBody (iv t l b n nt (some d) x9 x10 x11) σ = r) : initF Δ d (iv t l b n nt x8 x9 x10 x11) σ = r := h
theorem add_succ {b : Int} {r : Nat} : b + 1 + (r : Int) = b + ((r + 1 : Nat) : Int) := by omega
theorem isStrings_sp {r : Nat} {ds : List D} : isStrings (List.replicate (r + 1) 32) ++ ds = .str [32] :: (isStrings (List.replicate r 32) ++ ds) := rfl
theorem init_spaces {Δ : Dl} {t : List Nat} {l : Nat} {nt : Int} {x9 x10 x11 : Option D} {σ : Sto} {ds : List D} : ∀ (r : Nat) (b n : Int) (x8 : Option D), ∃ x8', forD (initF Δ) (isStrings (List.replicate r 32) ++ ds) (iv t l b n nt x8 x9 x10 x11) σ = forD (initF Δ) ds (iv t l (b + r) (n + r) nt x8' x9 x10 x11) σ
  | 0, b, n, x8 => ⟨x8, by rw [Int.natCast_zero, Int.add_zero, Int.add_zero]; rfl⟩
  | r + 1, b, n, x8 => by
    obtain ⟨x8', e⟩ := init_spaces (ds := ds) r (b + 1) (n + 1) (some (.str [32]))
    refine ⟨x8', ?_⟩
    rw [isStrings_sp, for_turn (initF_of init_sp), ← add_succ, ← add_succ]
    exact e
theorem run_sum {n : Int} {r : Nat} {runs : List Nat} : n + (r : Int) + 1 + ((runSum runs : Nat) : Int) = n + ((runSum (r :: runs) : Nat) : Int) := by
  show _ = n + ((r + 1 + runSum runs : Nat) : Int)
  omega
theorem run_cnt {nt : Int} {r : Nat} {runs : List Nat} : nt + 1 + ((runs.length : Nat) : Int) = nt + (((r :: runs).length : Nat) : Int) := by
  show _ = nt + ((runs.length + 1 : Nat) : Int)
  omega
theorem bump_fits {cs : List Int} {r : Nat} (hc : cs.length ≤ 10000) (hr : r ≤ 9999) : (bump cs r).length ≤ 10000 := by rw [bump_len]; omega
theorem init_runs {Δ : Dl} {t : List Nat} {x9 x10 x11 : Option D} {ds : List D} : ∀ (runs : List Nat) (cs : List Int) (l : Nat) (n nt : Int) (x8 : Option D) (σ : Sto), σ[l]? = some (some (.lst (cs.map .int))) → 1 ≤ l → cs.length ≤ 10000 → (∀ r ∈ runs, r ≤ 9999) →
    ∃ l' σ' x8', forD (initF Δ) (isStrings (runText runs) ++ ds) (iv t l 0 n nt x8 x9 x10 x11) σ = forD (initF Δ) ds (iv t l' 0 (n + (runSum runs : Nat)) (nt + (runs.length : Nat)) x8' x9 x10 x11) σ' ∧ σ'[l']? = some (some (.lst ((runs.foldl bump cs).map .int))) ∧ 1 ≤ l' ∧ σ'[0]? = σ[0]? ∧ (runs.foldl bump cs).length ≤ 10000
  | [], cs, l, n, nt, x8, σ, hl, h1, hc, _ => ⟨l, σ, x8, by rw [show ((runSum [] : Nat) : Int) = 0 from rfl, show ((([] : List Nat).length : Nat) : Int) = 0 from rfl, Int.add_zero, Int.add_zero]; rfl, hl, h1, rfl, hc⟩
  | r :: runs, cs, l, n, nt, x8, σ, hl, h1, hc, hr => by
    have hr0 : r ≤ 9999 := hr r List.mem_cons_self
    obtain ⟨x8', e1⟩ := init_spaces (Δ := Δ) (t := t) (l := l) (nt := nt) (x9 := x9) (x10 := x10) (x11 := x11) (σ := σ) (ds := .str [9] :: (isStrings (runText runs) ++ ds)) r 0 n x8
    obtain ⟨l1, σ1, e2, e3, e4, e5⟩ := init_tab (Δ := Δ) (t := t) (n := n + r) (nt := nt) (x9 := x9) (x10 := x10) (x11 := x11) hl hc (Nat.le_trans hr0 (by decide))
    have hl1 : 1 ≤ l1 := by
      rcases e4 with ⟨_, h⟩ | ⟨_, h⟩
      · rw [h]; exact h1
      · rw [h]; exact Nat.le_trans h1 (Nat.le_of_lt (List.getElem?_eq_some_iff.mp hl).1)
    obtain ⟨l2, σ2, x8'', f1, f2, f3, f4, f5⟩ := init_runs (Δ := Δ) (t := t) (x9 := x9) (x10 := x10) (x11 := x11) (ds := ds) runs (bump cs r) l1 (n + r + 1) (nt + 1) (some (.str [9])) σ1 e3 hl1 (bump_fits hc hr0) (fun q hq => hr q (List.mem_cons_of_mem _ hq))
    refine ⟨l2, σ2, x8'', ?_, f2, f3, f4.trans (e5 0 h1), f5⟩
    have ht : runText (r :: runs) = List.replicate r 32 ++ (9 :: runText runs) := List.append_assoc (List.replicate r 32) [9] (runText runs)
    rw [ht, isStrings_app, List.append_assoc]
    refine e1.trans ?_
    rw [Int.zero_add, for_turn (initF_of e2), ← run_sum, ← run_cnt]
    exact f1
theorem itemsOf_str {t : List Nat} (h : t.all (· < 128) = true) : itemsOf (.str t) = some (isStrings t) := if_pos h
theorem isStrings_len' : ∀ {a : List Nat}, (isStrings a).length = a.length
  | [] => rfl
  | _ :: r => congrArg (· + 1) (isStrings_len' (a := r))
theorem itK_str {t : List Nat} {σ : Sto} (h : t.all (· < 128) = true) (hl : t.length ≤ maxLen) : itK (.str t) σ = some (isStrings t, σ) := by
  show (itemsOf (.str t)).bind _ = _
  rw [itemsOf_str h]
  show (if (isStrings t).length ≤ maxLen then _ else none) = _
  rw [if_pos (by rw [isStrings_len']; exact hl)]
section
variable {Δ : Dl} {n : Nat} {vars : Vars} {σ σ1 σ2 : Sto}
theorem exS_setAttr {e o : E} {k l : Nat} {d : D} {as : List (Nat × D)} (h1 : evE Δ n e vars σ = some (d, σ1)) (h2 : evE Δ n o vars σ1 = some (.loc l, σ2)) (hl : σ2[l]? = some (some (.inst as))) (hk : as.lookup k = none ∧ as.length < 20) : exS Δ (n + 1) (.setAttr o k e) vars σ = some (.next, vars, σ2.set l (some (.inst (as ++ [(k, d)])))) :=
  (seq1_of (k := fun d => seq1 (evE Δ n o vars) (setAttrK k vars d)) h1).trans ((seq1_of h2).trans (by
    have h4 : instAt σ2 (.loc l) = some (l, as) := by
      show (match σ2[l]? with | some (some (.inst as)) => some (l, as) | _ => none) = _
      rw [hl]
    show (instAt σ2 (.loc l)).bind _ = _
    rw [h4]
    show (if as.lookup k = none ∧ as.length < 20 then _ else none) = _
    rw [if_pos hk]))
theorem exS_for {t : T} {it : E} {b : List S} {ds : List D} (h : itE Δ n it vars σ = some (ds, σ1)) : exS Δ (n + 1) (.for t it b) vars σ = forD (fun d vars σ => (asgT t d vars).bind fun vars => exSs Δ n b vars σ) ds vars σ1 :=
  seq1_of (k := fun ds σ => forD (fun d vars σ => (asgT t d vars).bind fun vars => exSs Δ n b vars σ) ds vars σ) h
theorem evE_tuple1 {a : E} {x : D} {xs : List D} (h1 : evE Δ n a vars σ = some (x, σ1)) (hr : res σ1 x = some (.lst xs)) (hl : xs.length ≤ maxLen) : evE Δ (n + 1 + 1) (.bi .tuple [a]) vars σ = some (.tup xs, σ1) := by
  have h : evEs Δ (n + 1) [a] vars σ = some ([x], σ1) := (seq1_of (k := fun d => seq1 (evEs Δ n [] vars) fun ds σ => some (d :: ds, σ)) h1).trans (by cases n <;> first | rfl | (cases h1))
  refine (seq1_of (k := biK .tuple) h).trans ?_
  show ((res σ1 x).bind fun z => (ress σ1 []).map (z :: ·)).bind _ = _
  rw [hr]
  show (if xs.length ≤ maxLen then some (D.tup xs) else none).map _ = _
  rw [if_pos hl]; rfl
theorem evE_two {a b : E} {x y : D} (h1 : evE Δ (n + 1) a vars σ = some (x, σ1)) (h2 : evE Δ n b vars σ1 = some (y, σ2)) : evE Δ (n + 1 + 1 + 1) (.tup [a, b]) vars σ = some (.tup [x, y], σ2) := by
  have h : evEs Δ (n + 1 + 1) [a, b] vars σ = some ([x, y], σ2) := (seq1_of (k := fun d => seq1 (evEs Δ (n + 1) [b] vars) fun ds σ => some (d :: ds, σ)) h1).trans ((seq1_of (k := fun ds σ => some (x :: ds, σ)) ((seq1_of (k := fun d => seq1 (evEs Δ n [] vars) fun ds σ => some (d :: ds, σ)) h2).trans (by cases n <;> first | rfl | (cases h2)))).trans rfl)
  exact (seq1_of (k := tupK) h).trans rfl
end
theorem set_set (σ : Sto) (i : Nat) (a b : Option MObj) : (σ.set i a).set i b = σ.set i b := List.set_set ..
noncomputable def init5 : List S := finit.body.drop 5
theorem init_end {Δ : Dl} {T : List Nat} {l : Nat} {b n nt : Int} {x8 : Option D} {σ : Sto} {cs : List Int} (h0 : σ[0]? = some (some (.inst [(0, .str T)]))) (hl : σ[l]? = some (some (.lst (cs.map .int)))) (h1 : 1 ≤ l) (hc : cs.length ≤ maxLen) :
    exSs Δ 195 init5 (iv T l b n nt x8 none none none) σ = some (.next, iv T l b n nt x8 none none none, σ.set 0 (some (.inst [(0, .str T), (1, .int n), (2, .int nt), (3, .tup [.tup (cs.map .int), .int b]), (4, .bool (decide (((cs.map D.int).length : Int) ≤ 1)))]))) := by
  have hlt : 0 < σ.length := (List.getElem?_eq_some_iff.mp h0).1
  have at0 : ∀ m, (σ.set 0 m)[0]? = some m := fun m => List.getElem?_set_self hlt
  have atl : ∀ m, (σ.set 0 m)[l]? = some (some (.lst (cs.map .int))) := fun m => (List.getElem?_set_ne (Nat.ne_of_lt h1)).trans hl
  have hk : (cs.map D.int).length ≤ maxLen := by rw [List.length_map]; exact hc
  refine (exSs_cons (exS_setAttr (e := .var 6) (o := .var 0) rfl rfl h0 ⟨rfl, (by decide : 1 < 20)⟩)).trans ?_
  refine (exSs_cons (exS_setAttr (as := [(0, .str T), (1, .int n)]) (e := .var 7) (o := .var 0) rfl rfl (at0 _) ⟨rfl, (by decide : 2 < 20)⟩)).trans ?_
  rw [set_set]
  refine (exSs_cons (exS_setAttr (as := [(0, .str T), (1, .int n), (2, .int nt)]) (o := .var 0) (evE_two (evE_tuple1 (a := .var 4) rfl (res_loc (atl _)) hk) (b := .var 5) rfl) rfl (at0 _) ⟨rfl, (by decide : 3 < 20)⟩)).trans ?_
  rw [set_set]
  refine (exSs_cons (exS_setAttr (as := [(0, .str T), (1, .int n), (2, .int nt), (3, .tup [.tup (cs.map .int), .int b])]) (o := .var 0) (evE_cmp (evE_len1 (a := .var 4) rfl (res_loc (atl _)) hk) (b := .lit (.int 1)) rfl rfl rfl (show cmpR .LtE (.int ((cs.map D.int).length : Int)) (.int 1) = some _ from rfl)) rfl (at0 _) ⟨rfl, (by decide : 4 < 20)⟩)).trans ?_
  rw [set_set]; rfl
theorem le1 (k : Nat) : decide ((k : Int) ≤ 1) = decide (k ≤ 1) := decide_eq_decide.mpr (by omega)
theorem init_start {Δ : Dl} {T : List Nat} {r : Option (Flw × Vars × Sto)} (h : exSs Δ 196 (.for (.var 8) (.attr (.var 0) 0) initBody :: init5) (iv T 1 0 0 0 none none none none) [some (.inst [(0, .str T)]), some (.lst [])] = r) :
    exSs Δ 200 finit.body (startVars finit [.loc 0, .str T]) [some (.inst [])] = r := h
theorem init_loop {Δ : Dl} {T : List Nat} {r : Option (Flw × Vars × Sto)} {vars' : Vars} {σ' : Sto} (ht : T.all (· < 128) = true) (hl : T.length ≤ maxLen) (h : forD (initF Δ) (isStrings T) (iv T 1 0 0 0 none none none none) [some (.inst [(0, .str T)]), some (.lst [])] = some (.next, vars', σ')) (h2 : exSs Δ 195 init5 vars' σ' = r) :
    exSs Δ 200 finit.body (startVars finit [.loc 0, .str T]) [some (.inst [])] = r := by
  refine init_start ((exSs_cons ((exS_for (ds := isStrings T) ?_).trans h)).trans h2)
  exact (seq1_of (f := evE Δ 193 (.attr (.var 0) 0) (iv T 1 0 0 0 none none none none)) (k := itK) (x := .str T) rfl).trans (itK_str ht hl)
theorem runI_of {Δ : Dl} {n : Nat} {f : Fn} {a : D} {v : Vars} {σ : Sto} {as : List (Nat × D)} (hn : f.np = 2) (ha : a.pure = true) (h : exSs Δ n f.body (startVars f [.loc 0, a]) [some (.inst [])] = some (.next, v, σ)) (h0 : σ[0]? = some (some (.inst as))) (hp : D.purea as = true) : runI Δ n f a = some (.inst as) := by
  unfold runI
  rw [if_pos (by rw [hn, ha]; rfl), h]
  show (lookI σ).bind _ = _
  have hk : look σ 0 = some (.inst as) := by unfold look; rw [h0]; rfl
  have hl : lookI σ = some as := by unfold lookI; rw [hk]
  rw [hl]
  show (if D.purea as = true then _ else none) = _
  rw [if_pos hp]
theorem init_ok {Δ : Dl} {runs : List Nat} {tr : Nat} {rest : List Nat} (hr : ∀ r ∈ runs, r ≤ 9999) (ht : (leadText runs tr rest).all (· < 128) = true) (hl : (leadText runs tr rest).length ≤ maxLen) :
    runI Δ 200 finit (.str (leadText runs tr rest)) = some (wsInst (leadText runs tr rest) (runs.foldl bump []) tr ((runSum runs + tr : Nat)) runs.length) := by
  obtain ⟨l', σ', x8', f1, f2, f3, f4, f5⟩ := init_runs (Δ := Δ) (t := leadText runs tr rest) (x9 := none) (x10 := none) (x11 := none) (ds := isStrings (List.replicate tr 32) ++ isStrings (120 :: rest)) runs [] 1 0 0 none [some (.inst [(0, .str (leadText runs tr rest))]), some (.lst [])] rfl (Nat.le_refl 1) (Nat.zero_le _) hr
  obtain ⟨y8, g1⟩ := init_spaces (Δ := Δ) (t := leadText runs tr rest) (l := l') (nt := 0 + ((runs.length : Nat) : Int)) (x9 := none) (x10 := none) (x11 := none) (σ := σ') (ds := isStrings (120 :: rest)) tr 0 (0 + (runSum runs : Nat)) x8'
  have e0 : isStrings (leadText runs tr rest) = isStrings (runText runs) ++ (isStrings (List.replicate tr 32) ++ isStrings (120 :: rest)) := by
    show isStrings (runText runs ++ (List.replicate tr 32 ++ 120 :: rest)) = _
    rw [isStrings_app, isStrings_app]
  generalize leadText runs tr rest = T at *
  have e7 : forD (initF Δ) (isStrings T) (iv T 1 0 0 0 none none none none) [some (.inst [(0, .str T)]), some (.lst [])] = some (.next, iv T l' tr ((runSum runs + tr : Nat)) (runs.length : Nat) (some (.str [120])) none none none, σ') := by
    rw [e0, f1, g1, Int.natCast_add, Int.zero_add, Int.zero_add, Int.zero_add]
    exact (for_turn (ds := isStrings rest) (initF_of (d := .str [120]) init_x)).trans rfl
  have hc : (runs.foldl bump []).length ≤ maxLen := Nat.le_trans f5 (by decide)
  have hlt : 0 < σ'.length := (List.getElem?_eq_some_iff.mp (show σ'[0]? = some _ from f4)).1
  refine (runI_of rfl rfl (init_loop ht hl e7 (init_end f4 f2 f3 hc)) (List.getElem?_set_self hlt) ?_).trans ?_
  · show (true && (true && (true && (D.pures [.tup ((runs.foldl bump []).map .int), .int tr] && (true && true))))) = true
    rw [show D.pures [.tup ((runs.foldl bump []).map .int), .int tr] = (D.pures ((runs.foldl bump []).map .int) && (true && true)) from rfl, pures_ints]; rfl
  · unfold wsInst
    rw [List.length_map, le1]
end Ev
end
section
set_option maxRecDepth 100000
set_option autoImplicit false
set_option linter.all false
set_option maxHeartbeats 4000000
namespace Ev
open PySem
/-- the ints a, a + 1, .. : m of them -/
noncomputable def intsFrom (a : Int) : Nat → List Int
  | 0 => []
  | m + 1 => a :: intsFrom (a + 1) m
theorem intsFrom_len : ∀ (m : Nat) (a : Int), (intsFrom a m).length = m
  | 0, _ => rfl
  | m + 1, a => by simp [intsFrom, intsFrom_len m]
theorem mem_intsFrom : ∀ {m : Nat} {a i : Int}, i ∈ intsFrom a m ↔ a ≤ i ∧ i < a + m
  | 0, a, i => by simp [intsFrom]
  | m + 1, a, i => by simp only [intsFrom, List.mem_cons, mem_intsFrom (m := m)]; omega
theorem intsFrom_range : ∀ (m : Nat) (a : Int), (List.range m).map (fun (k : Nat) => a + (k : Int)) = intsFrom a m
  | 0, _ => rfl
  | m + 1, a => by
    rw [List.range_succ_eq_map, List.map_cons, List.map_map, intsFrom, ← intsFrom_range m (a + 1)]
    congr 1
    · simp
    · apply List.map_congr_left; intro k _; simp; omega
theorem rangeD_eq (a b : Int) : rangeD a b = (intsFrom a (b - a).toNat).map .int := by
  rw [rangeD, ← intsFrom_range, List.map_map]; rfl
theorem itE_range1 {Δ : Dl} {n : Nat} {e : E} {vars : Vars} {σ σ' : Sto} {b : Int} (h : evEs Δ n [e] vars σ = some ([.int b], σ')) (h1 : small b = true) (h2 : b.toNat ≤ maxLen) : itE Δ (n + 1) (.bi .range [e]) vars σ = some ((intsFrom 0 b.toNat).map .int, σ') :=
  (seq1_of (k := rangeK) h).trans (by
    show ((if (small b && decide (b.toNat ≤ maxLen)) = true then some ((0 : Int), b) else none).map _) = _
    rw [if_pos (by rw [h1, decide_eq_true h2]; rfl)]
    show some (rangeD 0 b, σ') = _
    rw [rangeD_eq, Int.sub_zero])
theorem itE_range2 {Δ : Dl} {n : Nat} {e1 e2 : E} {vars : Vars} {σ σ' : Sto} {a b : Int} (h : evEs Δ n [e1, e2] vars σ = some ([.int a, .int b], σ')) (h0 : small a = true) (h1 : small b = true) (h2 : (b - a).toNat ≤ maxLen) : itE Δ (n + 1) (.bi .range [e1, e2]) vars σ = some ((intsFrom a (b - a).toNat).map .int, σ') :=
  (seq1_of (k := rangeK) h).trans (by
    show ((if (small a && small b && decide ((b - a).toNat ≤ maxLen)) = true then some (a, b) else none).map _) = _
    rw [if_pos (by rw [h0, h1, decide_eq_true h2]; rfl)]
    show some (rangeD a b, σ') = _
    rw [rangeD_eq])
/-- the sum of f i * c over the items, from k on -/
noncomputable def isum (f : Nat → Int) (k : Nat) : List Int → Int
  | [] => 0
  | c :: cs => f k * c + isum f (k + 1) cs
theorem isum_bump (f : Nat → Int) : ∀ (cs : List Int) (b k : Nat), isum f k (bump cs b) = isum f k cs + f (k + b)
  | [], 0, k => by simp [bump, isum]
  | [], b + 1, k => by
    have := isum_bump f [] b (k + 1)
    simp [bump, isum] at this ⊢
    rw [this]; congr 1; omega
  | c :: cs, 0, k => by simp [bump, isum, Int.mul_add]; omega
  | c :: cs, b + 1, k => by
    have := isum_bump f cs b (k + 1)
    simp only [bump, isum, this]
    rw [show k + 1 + b = k + (b + 1) by omega]; omega
noncomputable def rsum (f : Nat → Int) : List Nat → Int
  | [] => 0
  | r :: rs => f r + rsum f rs
theorem isum_runs (f : Nat → Int) : ∀ (runs : List Nat) (cs : List Int), isum f 0 (runs.foldl bump cs) = isum f 0 cs + rsum f runs
  | [], cs => by simp [rsum]
  | r :: rs, cs => by rw [List.foldl_cons, isum_runs f rs, isum_bump]; simp [rsum]; omega
noncomputable def longest : List Nat → Nat
  | [] => 0
  | r :: rs => max (r + 1) (longest rs)
theorem bump_longest : ∀ (runs : List Nat) (cs : List Int), (runs.foldl bump cs).length = max cs.length (longest runs)
  | [], cs => by simp [longest]
  | r :: rs, cs => by rw [List.foldl_cons, bump_longest rs, bump_len]; simp [longest, Nat.max_assoc]
theorem isum_skip (f : Nat → Int) : ∀ (j : Nat) (cs : List Int) (k : Nat), (∀ i, k ≤ i → i < k + j → f i = 0) → isum f k cs = isum f (k + j) (cs.drop j)
  | 0, cs, k, _ => rfl
  | j + 1, [], k, _ => rfl
  | j + 1, c :: cs, k, h => by
    have := isum_skip f j cs (k + 1) (fun i h1 h2 => h i (by omega) (by omega))
    rw [isum, this, h k (Nat.le_refl _) (by omega), List.drop_succ_cons, show k + 1 + j = k + (j + 1) by omega]; omega
theorem small_nat {n : Nat} (h : n < 2 ^ 62) : small (n : Int) = true := by simp [small]; omega
theorem max_ints (a b : Int) : biD .max [.int a, .int b] = some (.int (max a b)) := by
  show (match some (decide (b > a)) with | some true => some (D.int b) | some false => some (D.int a) | none => none) = _
  by_cases h : b > a
  · rw [decide_eq_true h, Int.max_eq_right (Int.le_of_lt h)]
  · rw [decide_eq_false h, Int.max_eq_left (Int.not_lt.mp h)]
theorem lenD_tup {xs : List D} (h : xs.length ≤ maxLen) : lenD (.tup xs) = some (.int xs.length) := if_pos h
theorem evE_lenT {Δ : Dl} {n : Nat} {a : E} {xs : List D} {vars : Vars} {σ σ1 : Sto} (h1 : evE Δ n a vars σ = some (.tup xs, σ1)) (hl : xs.length ≤ maxLen) : evE Δ (n + 1 + 1) (.bi .len [a]) vars σ = some (.int xs.length, σ1) := by
  have h : evEs Δ (n + 1) [a] vars σ = some ([.tup xs], σ1) := (seq1_of (k := fun d => seq1 (evEs Δ n [] vars) fun ds σ => some (d :: ds, σ)) h1).trans (by cases n <;> first | rfl | (cases h1))
  refine (seq1_of (k := biK .len) h).trans ?_
  show (lenD (.tup xs)).map _ = _
  rw [lenD_tup hl]; rfl
theorem evE_max2 {Δ : Dl} {n : Nat} {a b : E} {i j : Int} {vars : Vars} {σ σ1 σ2 : Sto} (h1 : evE Δ (n + 1 + 1) a vars σ = some (.int i, σ1)) (h2 : evE Δ (n + 1) b vars σ1 = some (.int j, σ2)) : evE Δ (n + 1 + 1 + 1 + 1) (.bi .max [a, b]) vars σ = some (.int (max i j), σ2) := by
  refine (seq1_of (k := biK .max) (evEs_cons h1 (evEs_cons h2 rfl))).trans ?_
  show (biD .max [.int i, .int j]).map _ = _
  rw [max_ints]; rfl
theorem pure_ws {t : List Nat} {cs : List Int} {tr n nt : Int} : (wsInst t cs tr n nt).pure = true := by
  show (true && (true && (true && (D.pures [.tup (cs.map .int), .int tr] && (true && true))))) = true
  rw [show D.pures [.tup (cs.map .int), .int tr] = (D.pures (cs.map .int) && (true && true)) from rfl, pures_ints]; rfl
theorem longest_ok {Δ : Dl} {t : List Nat} {cs : List Int} {tr n nt : Int} (hc : cs.length ≤ 10000) : runP Δ 200 flongestrunofspaces [wsInst t cs tr n nt] = some (.int (max ((cs.length : Int) - 1) tr)) := by
  have hc' : (cs.map D.int).length ≤ maxLen := by rw [List.length_map]; exact Nat.le_trans hc (by decide)
  refine Rets.run (Rets.asgs (x := .tup [.tup (cs.map .int), .int tr]) rfl rfl (Rets.ret (x := .int (max ((cs.length : Int) - 1) tr)) (evE_max2 ?_ rfl) rfl)) rfl (by show ((wsInst t cs tr n nt).pure && true) = true; rw [pure_ws]; rfl) rfl
  have h := evE_ii (op := .Sub) (k := ((cs.map D.int).length : Int) - 1) (Δ := Δ) (evE_lenT (a := .var 1) (n := 192) (vars := [some (wsInst t cs tr n nt), some (.tup (cs.map .int)), some (.int tr), none, none]) (σ := []) rfl hc') (b := .lit (.int 1)) rfl rfl
  rw [List.length_map] at h
  exact h
noncomputable def indBody : List S := [.asg [(.var 4)] (.bin .Add (.var 4) (.bin .Mult (.bin .FloorDiv (.var 5) (.var 1)) (.idx (.var 2) (.var 5))))]
noncomputable def indF (Δ : Dl) : D → Vars → Sto → Option (Flw × Vars × Sto) := fun d vars σ => (asgT (.var 5) d vars).bind fun vars => exSs Δ 196 indBody vars σ
theorem fdiv_nat (a b : Nat) : (a : Int).fdiv (b : Int) = ((a / b : Nat) : Int) := by
  rw [Int.fdiv_eq_ediv_of_nonneg _ (by omega)]; exact (Int.natCast_ediv a b).symm
theorem fmod_nat (a b : Nat) : (a : Int).fmod (b : Int) = ((a % b : Nat) : Int) := by
  rw [Int.fmod_eq_emod_of_nonneg _ (by omega)]; exact (Int.natCast_emod a b).symm
theorem ind_loop {Δ : Dl} {w : D} {ts : Nat} {cs : List Int} {tr x6 x7 : Option D} (h1 : 1 ≤ ts) (h2 : ts ≤ 20000) (hc : cs.length ≤ 10000) {σ : Sto} : ∀ (m a : Nat) (il : Int) (x5 : Option D), a + m = cs.length → ∃ x5', forD (indF Δ) ((intsFrom a m).map .int) [some w, some (.int ts), some (.tup (cs.map .int)), tr, some (.int il), x5, x6, x7] σ = some (.next, [some w, some (.int ts), some (.tup (cs.map .int)), tr, some (.int (il + isum (fun i => ((i / ts : Nat) : Int)) a (cs.drop a))), x5', x6, x7], σ)
  | 0, a, il, x5, h => ⟨x5, by
      have : cs.drop a = [] := List.drop_eq_nil_of_le (by omega)
      simp [intsFrom, forD, this, isum]⟩
  | m + 1, a, il, x5, h => by
    obtain ⟨c, hc1⟩ : ∃ c, cs[a]? = some c := ⟨cs[a]'(by omega), List.getElem?_eq_getElem (by omega)⟩
    have hd : cs.drop a = c :: cs.drop (a + 1) := by
      rw [List.drop_eq_getElem_cons (show a < cs.length by omega)]
      congr 1
      rw [List.getElem?_eq_getElem (show a < cs.length by omega)] at hc1
      exact Option.some.inj hc1
    obtain ⟨x5', e⟩ := ind_loop (Δ := Δ) (w := w) (tr := tr) (x6 := x6) (x7 := x7) h1 h2 hc (σ := σ) m (a + 1) (il + ((a / ts : Nat) : Int) * c) (some (.int a)) (by omega)
    refine ⟨x5', ?_⟩
    have hg : (cs.map D.int)[(a : Int).toNat]? = some (.int c) := by rw [List.getElem?_map, Int.toNat_natCast, hc1]; rfl
    have e2 : small (((a / ts : Nat) : Int)) = true := small_nat (by have := Nat.div_le_self a ts; omega)
    have e3 : small (ts : Int) = true := small_nat (by omega)
    have e4 : binII .FloorDiv (a : Int) (ts : Int) = some (.int ((a / ts : Nat) : Int)) := by
      show (if ((ts : Int) == 0 || !small (ts : Int)) = true then none else some (D.int ((a : Int).fdiv ts))) = _
      rw [if_neg (by rw [e3, beq_eq_false_iff_ne.mpr (by omega)]; decide), fdiv_nat]
    have e6 : binII .Mult ((a / ts : Nat) : Int) c = some (.int (((a / ts : Nat) : Int) * c)) := if_pos (by rw [e2]; rfl)
    have e5 : indF Δ (.int a) [some w, some (.int ts), some (.tup (cs.map .int)), tr, some (.int il), x5, x6, x7] σ = some (.next, [some w, some (.int ts), some (.tup (cs.map .int)), tr, some (.int (il + ((a / ts : Nat) : Int) * c)), some (.int a), x6, x7], σ) :=
      exSs_one (n := 194) (exS_asg1 (i := 4) (evE_ii (a := .var 4) rfl (evE_ii (evE_ii (a := .var 5) (b := .var 1) rfl rfl e4) (evE_idx (a := .var 2) (b := .var 5) rfl rfl rfl rfl (Int.natCast_nonneg a) (small_nat (by omega)) hg) e6) rfl) rfl)
    refine (for_turn (ds := (intsFrom ((a : Int) + 1) m).map .int) e5).trans ?_
    rw [show (a : Int) + 1 = ((a + 1 : Nat) : Int) from rfl, hd, isum, ← Int.add_assoc]
    exact e
noncomputable abbrev nv (w : D) (ts : Nat) (cs : List Int) (tr il : Int) (x5 : Option D) : Vars := [some w, some (.int ts), some (.tup (cs.map .int)), some (.int tr), some (.int il), x5, none, none]
theorem ind_for {Δ : Dl} {w : D} {cs : List Int} {tr : Int} {ts : Nat} (h1 : 1 ≤ ts) (h2 : ts ≤ 20000) (hc : cs.length ≤ 10000) : ∃ x5', forD (indF Δ) ((intsFrom ts ((cs.length : Int) - ts).toNat).map .int) (nv w ts cs tr 0 none) [] = some (.next, nv w ts cs tr (isum (fun i => ((i / ts : Nat) : Int)) 0 cs) x5', []) := by
  have h0 : isum (fun i => ((i / ts : Nat) : Int)) 0 cs = isum (fun i => ((i / ts : Nat) : Int)) ts (cs.drop ts) := by
    have := isum_skip (fun i => ((i / ts : Nat) : Int)) ts cs 0 (fun i _ h => by rw [Nat.zero_add] at h; rw [Nat.div_eq_of_lt h]; rfl)
    rw [Nat.zero_add] at this; exact this
  rcases Nat.le_total ts cs.length with h | h
  · obtain ⟨x5', e⟩ := ind_loop (Δ := Δ) (w := w) (tr := some (.int tr)) (x6 := none) (x7 := none) h1 h2 hc (σ := []) ((cs.length : Int) - ts).toNat ts 0 none (by omega)
    rw [Int.zero_add] at e
    exact ⟨x5', by rw [h0]; exact e⟩
  · refine ⟨none, ?_⟩
    rw [show ((cs.length : Int) - ts).toNat = 0 by omega, h0, List.drop_eq_nil_of_le h]; rfl
theorem indent_ok {Δ : Dl} {t : List Nat} {cs : List Int} {tr n nt : Int} {ts : Nat} (h1 : 1 ≤ ts) (h2 : ts ≤ 20000) (hc : cs.length ≤ 10000) : runP Δ 200 findentlevel [wsInst t cs tr n nt, .int ts] = some (.int (tr + ts * (isum (fun i => ((i / ts : Nat) : Int)) 0 cs + nt))) := by
  have hk : (cs.map D.int).length ≤ maxLen := by rw [List.length_map]; exact Nat.le_trans hc (by decide)
  have e3 : small (ts : Int) = true := small_nat (by omega)
  obtain ⟨x5', hf⟩ := ind_for (Δ := Δ) (w := wsInst t cs tr n nt) (tr := tr) h1 h2 hc
  have hl := evE_lenT (a := .var 2) (n := 191) (Δ := Δ) (vars := nv (wsInst t cs tr n nt) ts cs tr 0 none) (σ := []) rfl hk
  rw [List.length_map] at hl
  have hi := itE_range2 (evEs_cons (a := .var 1) (es := [.bi .len [.var 2]]) rfl (evEs_cons (n := 193) hl rfl)) e3 (small_nat (Nat.lt_of_le_of_lt hc (by decide))) (by unfold maxLen; omega)
  have e6 : binII .Mult (ts : Int) (isum (fun i => ((i / ts : Nat) : Int)) 0 cs + nt) = some (.int (ts * (isum (fun i => ((i / ts : Nat) : Int)) 0 cs + nt))) := if_pos (by rw [e3]; rfl)
  refine Rets.run (Rets.asgs (x := .tup [.tup (cs.map .int), .int tr]) rfl rfl (Rets.asg (x := .int 0) rfl rfl (Rets.step ((exS_for hi).trans hf) (Rets.ret (evE_ii (a := .var 3) rfl (evE_ii (a := .var 1) rfl (evE_ii (a := .var 4) (b := .attr (.var 0) 2) (j := nt) rfl rfl rfl) e6) rfl) rfl)))) rfl (by show ((wsInst t cs tr n nt).pure && (true && true)) = true; rw [pure_ws]; rfl) rfl
end Ev
end
section
set_option maxRecDepth 100000
set_option autoImplicit false
set_option linter.all false
set_option maxHeartbeats 4000000
namespace Ev
open PySem
theorem pures_map {α : Type} (h : α → D) (hp : ∀ x, (h x).pure = true) : ∀ l : List α, D.pures (l.map h) = true
  | [] => rfl
  | x :: l => by simp [D.pures, hp x, pures_map h hp l]
noncomputable def witBody : List S := [.ite (.cmp .NotEq (.meth 101 (.var 0) [(.var 4)]) (.meth 101 (.var 1) [(.var 4)])) [.expr (.append (.var 3) (.tup [(.var 4), (.meth 101 (.var 0) [(.var 4)]), (.meth 101 (.var 1) [(.var 4)])]))] []]
noncomputable def witF (Δ : Dl) : D → Vars → Sto → Option (Flw × Vars × Sto) := fun d vars σ => (asgT (.var 4) d vars).bind fun vars => exSs Δ 196 witBody vars σ
noncomputable def tup3 (a b c : Int) : D := .tup [.int a, .int b, .int c]
theorem meth_ok {Δ : Dl} {n f : Nat} {o : E} {es : List E} {vars : Vars} {σ σ' σ2 : Sto} {as : List (Nat × D)} {ds : List D} {d : D} (h : evE Δ n o vars σ = some (.inst as, σ')) (h2 : evEs Δ n es vars σ' = some (ds, σ2)) (hp : D.pures (.inst as :: ds) = true) (hf : Δ.fns f (.inst as :: ds) = some d) : evE Δ (n + 1) (.meth f o es) vars σ = some (d, σ2) :=
  (seq1_of (k := fun x => seq1 (evEs Δ n es vars) (methK Δ f x)) h).trans ((seq1_of h2).trans (by
    show callK Δ f (.inst as :: ds) σ2 = _
    unfold callK
    rw [if_pos hp, hf]; rfl))
theorem evE_append {Δ : Dl} {n l : Nat} {o a : E} {y : D} {xs : List D} {vars : Vars} {σ σ1 σ2 : Sto} (h1 : evE Δ n o vars σ = some (.loc l, σ1)) (hi : isLst σ1 (.loc l) = true) (h2 : evE Δ n a vars σ1 = some (y, σ2)) (hl : σ2[l]? = some (some (.lst xs))) (hz : xs.length < maxLen) : evE Δ (n + 1) (.append o a) vars σ = some (.none, σ2.set l (some (.lst (xs ++ [y])))) :=
  (seq1_of (k := fun x σ => if isLst σ x then seq1 (evE Δ n a vars) (appK x) σ else none) h1).trans (by
    rw [if_pos hi, seq1_of h2]
    show (lstAt σ2 (.loc l)).bind _ = _
    rw [lstAt_of hl]
    show (if xs.length < maxLen then _ else none) = _
    rw [if_pos hz])
theorem exS_expr {Δ : Dl} {n : Nat} {e : E} {vars : Vars} {σ σ1 : Sto} (h : evE Δ n e vars σ = some (.none, σ1)) : exS Δ (n + 1) (.expr e) vars σ = some (.next, vars, σ1) := (seq1_of (k := fun d σ => if isNoneD d then some (Flw.next, vars, σ) else none) h).trans rfl
noncomputable abbrev wv (as bs : List (Nat × D)) (x2 x4 x5 x6 : Option D) : Vars := [some (.inst as), some (.inst bs), x2, some (.loc 0), x4, x5, x6]
theorem wit_turn {Δ : Dl} {as bs : List (Nat × D)} {f g : Int → Int} {x2 x4 x5 x6 : Option D} {a : Int} {xs : List D} (pa : D.purea as = true) (pb : D.purea bs = true) (h1 : Δ.fns 101 [.inst as, .int a] = some (.int (f a))) (h2 : Δ.fns 101 [.inst bs, .int a] = some (.int (g a))) (hx : xs.length < maxLen) :
    witF Δ (.int a) (wv as bs x2 x4 x5 x6) [some (.lst xs)] = some (.next, wv as bs x2 (some (.int a)) x5 x6, [some (.lst (xs ++ if f a == g a then [] else [tup3 a (f a) (g a)]))]) := by
  have p1 : D.pures [.inst as, .int a] = true := by show (D.purea as && (true && true)) = true; rw [pa]; rfl
  have p2 : D.pures [.inst bs, .int a] = true := by show (D.purea bs && (true && true)) = true; rw [pb]; rfl
  have m1 : ∀ n, evE Δ (n + 1 + 1 + 1) (.meth 101 (.var 0) [.var 4]) (wv as bs x2 (some (.int a)) x5 x6) [some (.lst xs)] = some (.int (f a), [some (.lst xs)]) := fun n => meth_ok (n := n + 1 + 1) (ds := [.int a]) rfl rfl p1 h1
  have m2 : ∀ n, evE Δ (n + 1 + 1 + 1) (.meth 101 (.var 1) [.var 4]) (wv as bs x2 (some (.int a)) x5 x6) [some (.lst xs)] = some (.int (g a), [some (.lst xs)]) := fun n => meth_ok (n := n + 1 + 1) (ds := [.int a]) rfl rfl p2 h2
  cases hq : f a == g a with
  | true => exact exSs_one (n := 194) (exS_ifF (c := .cmp .NotEq (.meth 101 (.var 0) [.var 4]) (.meth 101 (.var 1) [.var 4])) (tr_cmp (m1 189) (m2 189) rfl rfl (show cmpR .NotEq (.int (f a)) (.int (g a)) = some (!true) from congrArg (fun t => some (!t)) hq)) (by rw [if_pos rfl, List.append_nil]; rfl))
  | false =>
    refine exSs_one (n := 194) (exS_ifT (c := .cmp .NotEq (.meth 101 (.var 0) [.var 4]) (.meth 101 (.var 1) [.var 4])) (tr_cmp (m1 189) (m2 189) rfl rfl (show cmpR .NotEq (.int (f a)) (.int (g a)) = some (!false) from congrArg (fun t => some (!t)) hq)) (exSs_one (n := 192) (exS_expr (evE_append (l := 0) (σ2 := [some (.lst xs)]) (o := .var 3) rfl rfl (y := tup3 a (f a) (g a)) ?_ rfl hx))))
    exact (seq1_of (k := tupK) (evEs_cons (a := .var 4) (n := 189) rfl (evEs_cons (m1 185) (evEs_cons (m2 184) rfl)))).trans rfl
theorem wit_loop {Δ : Dl} {as bs : List (Nat × D)} {f g : Int → Int} {x2 x5 x6 : Option D} (pa : D.purea as = true) (pb : D.purea bs = true) : ∀ (m : Nat) (a : Int) (xs : List D) (x4 : Option D), (∀ i, a ≤ i → i < a + m → Δ.fns 101 [.inst as, .int i] = some (.int (f i)) ∧ Δ.fns 101 [.inst bs, .int i] = some (.int (g i))) → xs.length + m ≤ maxLen →
    ∃ x4', forD (witF Δ) ((intsFrom a m).map .int) (wv as bs x2 x4 x5 x6) [some (.lst xs)] = some (.next, wv as bs x2 x4' x5 x6, [some (.lst (xs ++ ((intsFrom a m).filter (fun i => f i != g i)).map fun i => tup3 i (f i) (g i)))])
  | 0, a, xs, x4, h, hx => ⟨x4, by show some _ = _; rw [show xs ++ ((intsFrom a 0).filter (fun i => f i != g i)).map (fun i => tup3 i (f i) (g i)) = xs from List.append_nil xs]⟩
  | m + 1, a, xs, x4, h, hx => by
    obtain ⟨h1, h2⟩ := h a (Int.le_refl a) (by omega)
    have e5 := wit_turn (Δ := Δ) (f := f) (g := g) (x2 := x2) (x4 := x4) (x5 := x5) (x6 := x6) pa pb h1 h2 (show xs.length < maxLen by omega)
    obtain ⟨x4', e⟩ := wit_loop (x2 := x2) (x5 := x5) (x6 := x6) pa pb m (a + 1) (xs ++ if f a == g a then [] else [tup3 a (f a) (g a)]) (some (.int a)) (fun i q1 q2 => h i (by omega) (by omega)) (by rw [List.length_append]; split <;> simp <;> omega)
    refine ⟨x4', (for_turn (ds := (intsFrom (a + 1) m).map .int) e5).trans (Eq.trans e ?_)⟩
    rw [List.append_assoc, show intsFrom a (m + 1) = a :: intsFrom (a + 1) m from rfl, List.filter_cons]
    cases hq : f a == g a with
    | true => rw [show (f a != g a) = false by show (!(f a == g a)) = false; rw [hq]; rfl]; rfl
    | false => rw [show (f a != g a) = true by show (!(f a == g a)) = true; rw [hq]; rfl]; rfl
theorem witness_ok {Δ : Dl} {as bs : List (Nat × D)} {f g : Int → Int} {la lb : Int} {m : Nat} (pa : D.purea as = true) (pb : D.purea bs = true) (h1 : Δ.fns 100 [.inst as] = some (.int la)) (h2 : Δ.fns 100 [.inst bs] = some (.int lb)) (hm : max la lb + 1 = m) (hm2 : m ≤ 20000)
    (h : ∀ i : Int, 1 ≤ i → i ≤ m → Δ.fns 101 [.inst as, .int i] = some (.int (f i)) ∧ Δ.fns 101 [.inst bs, .int i] = some (.int (g i))) :
    runP Δ 200 fnotequalwitness [.inst as, .inst bs] = some (.lst (((intsFrom 1 m).filter (fun i => f i != g i)).map fun i => tup3 i (f i) (g i))) := by
  obtain ⟨x4', hl⟩ := wit_loop (Δ := Δ) (f := f) (g := g) (x2 := some (.int m)) (x5 := none) (x6 := none) pa pb m 1 [] none (fun i q1 q2 => h i q1 (by omega)) (by show 0 + m ≤ _; rw [Nat.zero_add]; exact Nat.le_trans hm2 (by decide))
  have p1 : D.pures [.inst as] = true := by show (D.purea as && true) = true; rw [pa]; rfl
  have p2 : D.pures [.inst bs] = true := by show (D.purea bs && true) = true; rw [pb]; rfl
  have p3 : D.pures [.inst as, .inst bs] = true := by show (D.purea as && (D.purea bs && true)) = true; rw [pa, pb]; rfl
  have hn : ((m : Int) + 1 - 1).toNat = m := by omega
  have hi := itE_range2 (Δ := Δ) (n := 195) (a := 1) (b := m + 1) (vars := wv as bs (some (.int m)) none none none) (σ := [some (.lst [])]) (σ' := [some (.lst [])]) (evEs_cons (a := .lit (.int 1)) (es := [.bin .Add (.var 2) (.lit (.int 1))]) rfl (evEs_cons (n := 193) rfl rfl)) rfl (small_nat (n := m + 1) (by omega)) (by rw [hn]; exact Nat.le_trans hm2 (by decide))
  rw [hn] at hi
  have hx := evE_max2 (n := 193) (vars := startVars fnotequalwitness [.inst as, .inst bs]) (σ := []) (meth_ok (o := .var 0) (es := []) rfl rfl p1 h1) (meth_ok (o := .var 1) (es := []) rfl rfl p2 h2)
  exact Rets.run (Rets.asg (x := .int m) (evE_ii hx (b := .lit (.int 1)) rfl (congrArg (fun k => some (D.int k)) hm)) rfl (Rets.step (σ' := [some (.lst [])]) (exS_asg1 (d := .loc 0) rfl rfl) (Rets.step ((exS_for hi).trans hl) (Rets.ret rfl rfl)))) rfl p3 (pures_map _ (fun x => rfl) _)
end Ev
end
section
set_option maxRecDepth 100000
set_option autoImplicit false
set_option linter.all false
set_option maxHeartbeats 4000000
namespace Ev
open PySem
theorem frz_pure {a : D} (pa : a.pure = true) (σ : Sto) : frz σ a = some (a, σ) := by cases a <;> first | rfl | exact falseE pa
theorem lookL_of {σ : Sto} {ys : List D} (h : σ[0]? = some (some (.lst ys))) : lookL σ = some ys := by
  have hk : look σ 0 = some (.lst ys) := by unfold look; rw [h]; rfl
  unfold lookL; rw [hk]
theorem exS_wh {Δ : Dl} {n : Nat} {vars : Vars} {σ : Sto} {c : E} {b : List S} {r : Option (Flw × Vars × Sto)} (h : whD (fun vars σ => trE Δ n c vars σ) (fun vars σ => exSs Δ n b vars σ) whFuel vars σ = r) : exS Δ (n + 1) (.wh c b) vars σ = r := h
theorem exSs_cont {Δ : Dl} {n : Nat} {vars vars' : Vars} {σ σ' : Sto} {st : S} {ss : List S} (h : exS Δ n st vars σ = some (.cont, vars', σ')) : exSs Δ (n + 1) (st :: ss) vars σ = some (.cont, vars', σ') := by
  show (match exS Δ n st vars σ with | some (.next, vars, σ) => exSs Δ n ss vars σ | r => r) = _
  rw [h]
theorem runM_of {Δ : Dl} {n : Nat} {f : Fn} {xs ys args : List D} {d : D} {σ : Sto} {r : Option (Flw × Vars × Sto)} (hn : args.length + 1 = f.np) (pa : D.pures args = true) (px : D.pures xs = true) (h : exSs Δ n f.body (startVars f (.loc 0 :: args)) [some (.lst xs)] = r) (he : endM r = some (d, σ)) (hl : σ[0]? = some (some (.lst ys))) (pd : d.pure = true) (py : D.pures ys = true) : runM Δ n f xs args = some (d, ys) := by
  unfold runM
  rw [if_pos (by rw [hn, beq_self_eq_true, pa, px]; rfl), h, he]
  show (lookL σ).bind _ = _
  rw [lookL_of hl]
  show (if (d.pure && D.pures ys) = true then _ else none) = _
  rw [if_pos (by rw [pd, py]; rfl)]
theorem evE_mcall {Δ : Dl} {n f l : Nat} {o : E} {es : List E} {vars : Vars} {σ σ' σ2 : Sto} {xs ys ds : List D} {d : D} (h : evE Δ n o vars σ = some (.loc l, σ')) (h2 : evEs Δ n es vars σ' = some (ds, σ2)) (hl : σ2[l]? = some (some (.lst xs))) (pd : D.pures ds = true) (px : D.pures xs = true) (hf : Δ.muts f xs ds = some (d, ys)) : evE Δ (n + 1) (.mcall f o es) vars σ = some (d, σ2.set l (some (.lst ys))) :=
  (seq1_of (k := fun x => seq1 (evEs Δ n es vars) (mcallK Δ f x)) h).trans ((seq1_of h2).trans (by
    show (lstAt σ2 (.loc l)).bind _ = _
    rw [lstAt_of hl]
    show (if (D.pures ds && D.pures xs) = true then (Δ.muts f xs ds).bind _ else none) = _
    rw [if_pos (by rw [pd, px]; rfl), hf]; rfl))
theorem evE_mcall' {Δ : Dl} {n f l : Nat} {o : E} {es : List E} {vars : Vars} {σ σ' σ2 σ4 : Sto} {xs ys ds : List D} {d : D} (h : evE Δ n o vars σ = some (.loc l, σ')) (h2 : evEs Δ n es vars σ' = some (ds, σ2)) (hl : σ2[l]? = some (some (.lst xs))) (pd : D.pures ds = true) (px : D.pures xs = true) (hf : Δ.muts f xs ds = some (d, ys)) (hs : σ2.set l (some (.lst ys)) = σ4) : evE Δ (n + 1) (.mcall f o es) vars σ = some (d, σ4) := hs ▸ evE_mcall h h2 hl pd px hf
theorem exS_setIdx' {Δ : Dl} {n : Nat} {vars : Vars} {σ σ1 σ2 σ3 σ4 : Sto} {e o i : E} {k : Int} {l : Nat} {d : D} {xs : List D} (h1 : evE Δ n e vars σ = some (d, σ1)) (h2 : evE Δ n o vars σ1 = some (.loc l, σ2)) (h3 : evE Δ n i vars σ2 = some (.int k, σ3)) (hl : σ3[l]? = some (some (.lst xs))) (h0 : 0 ≤ k) (hk : small k = true) (hg : k.toNat < xs.length) (hs : σ3.set l (some (.lst (xs.set k.toNat d))) = σ4) :
    exS Δ (n + 1) (.setIdx o i e) vars σ = some (.next, vars, σ4) := hs ▸ exS_setIdx h1 h2 h3 hl h0 hk hg
theorem cmpR_lt {x a : D} {t : Bool} (h : ltD x a = some t) (hd : x.dep ≤ 50) : cmpR .Lt x a = some t := (if_pos hd).trans h
theorem pures2 {a b : D} (pa : a.pure = true) (pb : b.pure = true) : D.pures [a, b] = true := by show (a.pure && (b.pure && true)) = true; rw [pa, pb]; rfl
theorem pures1 {a : D} (pa : a.pure = true) : D.pures [a] = true := by show (a.pure && true) = true; rw [pa]; rfl
theorem pures3 {a b c : D} (pa : a.pure = true) (pb : b.pure = true) (pc : c.pure = true) : D.pures [a, b, c] = true := by show (a.pure && (b.pure && (c.pure && true))) = true; rw [pa, pb, pc]; rfl
section
variable {Δ Δ' : Dl} {a b c x : D} {xs zs : List D} {t : Bool}
theorem down1 (px : x.pure = true) : runM Δ 200 fsiftdown [x] [.int 0, .int 0] = some (.none, [x]) := runM_of rfl rfl (pures1 px) rfl rfl rfl rfl (pures1 px)
/-- to the front, if less -/
theorem down_ok {p : Int} (hs : binII .RShift (p - 1) 1 = some (.int 0)) (h0 : 0 < p) (hp : small p = true) (hx : xs[p.toNat]? = some x) (ha : xs[0]? = some a) (h : ltD x a = some t) (hd : x.dep ≤ 50) (pa : a.pure = true) (px : x.pure = true) (pxs : D.pures xs = true) (py : D.pures (if t then (xs.set p.toNat a).set 0 x else xs.set p.toNat x) = true) :
    runM Δ 200 fsiftdown xs [.int 0, .int p] = some (.none, if t then (xs.set p.toNat a).set 0 x else xs.set p.toNat x) := by
  have hlt : p.toNat < xs.length := (List.getElem?_eq_some_iff.mp hx).1
  have h0' : decide (p > 0) = true := decide_eq_true h0
  have hl0 : 0 < (xs.set p.toNat a).length := by rw [List.length_set]; exact Nat.lt_of_le_of_lt (Nat.zero_le _) hlt
  have e1 : exS Δ 199 (.asg [.var 3] (.idx (.var 0) (.var 2))) [some (.loc 0), some (.int 0), some (.int p), none, none, none] [some (.lst xs)] = _ := exS_asg1 (evE_idx (a := .var 0) (b := .var 2) rfl rfl rfl rfl (Int.le_of_lt h0) hp hx) rfl
  have ht : trE Δ 197 (.cmp .Gt (.var 2) (.var 1)) [some (.loc 0), some (.int 0), some (.int p), some x, none, none] [some (.lst xs)] = some (true, _) := tr_cmp (a := .var 2) (b := .var 1) rfl rfl rfl rfl (show cmpR .Gt (.int p) (.int 0) = some true from congrArg some h0')
  have k1 : exS Δ 196 (.asg [.var 4] (.bin .RShift (.bin .Sub (.var 2) (.lit (.int 1))) (.lit (.int 1)))) [some (.loc 0), some (.int 0), some (.int p), some x, none, none] [some (.lst xs)] = _ := exS_asg1 (evE_ii (evE_ii (a := .var 2) (b := .lit (.int 1)) rfl rfl rfl) (b := .lit (.int 1)) rfl hs) rfl
  have k2 : exS Δ 195 (.asg [.var 5] (.idx (.var 0) (.var 4))) [some (.loc 0), some (.int 0), some (.int p), some x, some (.int 0), none] [some (.lst xs)] = _ := exS_asg1 (evE_idx (a := .var 0) (b := .var 4) (k := 0) rfl rfl rfl rfl (Int.le_refl 0) rfl ha) rfl
  have hc : trE Δ 193 (.cmp .Lt (.var 3) (.var 5)) [some (.loc 0), some (.int 0), some (.int p), some x, some (.int 0), some a] [some (.lst xs)] = some (t, _) := tr_cmp (a := .var 3) (b := .var 5) rfl rfl (res_pure px) (res_pure pa) (cmpR_lt h hd)
  cases t with
  | true =>
    have k3 : exS Δ 192 (.setIdx (.var 0) (.var 2) (.var 5)) [some (.loc 0), some (.int 0), some (.int p), some x, some (.int 0), some a] [some (.lst xs)] = _ := exS_setIdx' (e := .var 5) (o := .var 0) (i := .var 2) rfl rfl rfl rfl (Int.le_of_lt h0) hp hlt rfl
    refine runM_of (r := some (.next, [some (.loc 0), some (.int 0), some (.int 0), some x, some (.int 0), some a], [some (.lst ((xs.set p.toNat a).set 0 x))])) rfl rfl pxs ?_ rfl rfl rfl py
    refine (exSs_cons e1).trans ((exSs_cons (exS_wh ((wh_turn (n := 999) ht (r := (.cont, [some (.loc 0), some (.int 0), some (.int 0), some x, some (.int 0), some a], [some (.lst (xs.set p.toNat a))])) ?_).trans rfl))).trans (exSs_one (exS_setIdx' (e := .var 3) (o := .var 0) (i := .var 2) (k := 0) rfl rfl rfl rfl (Int.le_refl 0) rfl hl0 rfl)))
    exact (exSs_cons k1).trans ((exSs_cons k2).trans (exSs_cont (exS_ifT hc ((exSs_cons k3).trans rfl))))
  | false =>
    refine runM_of (r := some (.next, [some (.loc 0), some (.int 0), some (.int p), some x, some (.int 0), some a], [some (.lst (xs.set p.toNat x))])) rfl rfl pxs ?_ rfl rfl rfl py
    refine (exSs_cons e1).trans ((exSs_cons (exS_wh ((wh_turn (n := 999) ht (r := (.brk, [some (.loc 0), some (.int 0), some (.int p), some x, some (.int 0), some a], [some (.lst xs)])) ?_).trans rfl))).trans (exSs_one (exS_setIdx' (e := .var 3) (o := .var 0) (i := .var 2) rfl rfl rfl rfl (Int.le_of_lt h0) hp hlt rfl)))
    exact (exSs_cons k1).trans ((exSs_cons k2).trans ((exSs_cons (exS_ifF hc rfl)).trans rfl))
theorem down2 (h : ltD x a = some t) (hd : x.dep ≤ 50) (pa : a.pure = true) (px : x.pure = true) : runM Δ 200 fsiftdown [a, x] [.int 0, .int 1] = some (.none, if t then [x, a] else [a, x]) :=
  down_ok (xs := [a, x]) rfl (by decide) rfl rfl rfl h hd pa px (pures2 pa px) (by cases t with | true => exact pures2 px pa | false => exact pures2 pa px)
theorem down3 (h : ltD x a = some t) (hd : x.dep ≤ 50) (pa : a.pure = true) (pc : c.pure = true) (px : x.pure = true) : runM Δ 200 fsiftdown [a, c, x] [.int 0, .int 2] = some (.none, if t then [x, c, a] else [a, c, x]) :=
  down_ok (xs := [a, c, x]) rfl (by decide) rfl rfl rfl h hd pa px (pures3 pa pc px) (by cases t with | true => exact pures3 px pc pa | false => exact pures3 pa pc px)
/-- append, then siftdown -/
theorem push_ok (h2 : Δ.muts 2 (xs ++ [x]) [.int 0, .int (((xs ++ [x]).length : Int) - 1)] = some (.none, zs)) (hl : xs.length ≤ 1000) (pxs : D.pures xs = true) (px : x.pure = true) (pz : D.pures zs = true) (pc : D.pures (xs ++ [x]) = true) : runM Δ 200 fheappush xs [x] = some (.none, zs) := by
  have hl2 : (xs ++ [x]).length ≤ maxLen := by rw [List.length_append]; exact Nat.le_trans (Nat.succ_le_succ hl) (by decide)
  refine runM_of (r := some (.next, [some (.loc 0), some x, none, none], [some (.lst zs)])) rfl (pures1 px) pxs ?_ rfl rfl rfl pz
  refine (exSs_cons (exS_expr (evE_append (l := 0) (o := .var 0) (a := .var 1) rfl rfl rfl rfl (Nat.lt_of_le_of_lt hl (by decide))))).trans (exSs_one (exS_expr (evE_mcall' (l := 0) (o := .var 0) rfl (ds := [.int 0, .int (((xs ++ [x]).length : Int) - 1)]) (evEs_cons (a := .lit (.int 0)) rfl (evEs_cons (evE_ii (evE_len1 (a := .var 0) rfl (res_loc rfl) hl2) (b := .lit (.int 1)) rfl rfl) rfl)) rfl rfl pc h2 rfl)))
theorem push0 (h2 : ∀ xs ds, Δ.muts 2 xs ds = runM Δ' 200 fsiftdown xs ds) (px : x.pure = true) : runM Δ 200 fheappush [] [x] = some (.none, [x]) :=
  push_ok ((h2 [x] [.int 0, .int 0]).trans (down1 px)) (Nat.zero_le _) rfl px (pures1 px) (pures1 px)
theorem push1 (h2 : ∀ xs ds, Δ.muts 2 xs ds = runM Δ' 200 fsiftdown xs ds) (h : ltD x a = some t) (hd : x.dep ≤ 50) (pa : a.pure = true) (px : x.pure = true) : runM Δ 200 fheappush [a] [x] = some (.none, if t then [x, a] else [a, x]) :=
  push_ok ((h2 [a, x] [.int 0, .int 1]).trans (down2 h hd pa px)) (by decide : 1 ≤ 1000) (pures1 pa) px (by cases t with | true => exact pures2 px pa | false => exact pures2 pa px) (pures2 pa px)
theorem push2 (h2 : ∀ xs ds, Δ.muts 2 xs ds = runM Δ' 200 fsiftdown xs ds) (h : ltD x a = some t) (hd : x.dep ≤ 50) (pa : a.pure = true) (pc : c.pure = true) (px : x.pure = true) : runM Δ 200 fheappush [a, c] [x] = some (.none, if t then [x, c, a] else [a, c, x]) :=
  push_ok ((h2 [a, c, x] [.int 0, .int 2]).trans (down3 h hd pa pc px)) (by decide : 2 ≤ 1000) (pures2 pa pc) px (by cases t with | true => exact pures3 px pc pa | false => exact pures3 pa pc px) (pures3 pa pc px)
theorem up1 (h2 : ∀ xs ds, Δ.muts 2 xs ds = runM Δ' 200 fsiftdown xs ds) (px : x.pure = true) : runM Δ 200 fsiftup [x] [.int 0] = some (.none, [x]) := by
  refine runM_of (r := some (.next, [some (.loc 0), some (.int 0), some (.int 1), some (.int 0), some x, some (.int 1), none, none, none], [some (.lst [x])])) rfl rfl (pures1 px) ?_ rfl rfl rfl (pures1 px)
  have h : exSs Δ 200 fsiftup.body (startVars fsiftup [.loc 0, .int 0]) [some (.lst [x])] = exSs Δ 194 [.expr (.mcall 2 (.var 0) [(.var 3), (.var 1)])] [some (.loc 0), some (.int 0), some (.int 1), some (.int 0), some x, some (.int 1), none, none, none] [some (.lst [x])] := rfl
  exact h.trans (exSs_one (exS_expr (evE_mcall' (l := 0) (o := .var 0) (ds := [.int 0, .int 0]) rfl rfl rfl rfl (pures1 px) ((h2 [x] [.int 0, .int 0]).trans (down1 px)) rfl)))
theorem up2 (h2 : ∀ xs ds, Δ.muts 2 xs ds = runM Δ' 200 fsiftdown xs ds) (h : ltD x b = some t) (hd : x.dep ≤ 50) (pb : b.pure = true) (px : x.pure = true) : runM Δ 200 fsiftup [x, b] [.int 0] = some (.none, if t then [x, b] else [b, x]) := by
  refine runM_of (r := some (.next, [some (.loc 0), some (.int 1), some (.int 2), some (.int 0), some x, some (.int 3), some (.int 2), none, none], [some (.lst (if t then [x, b] else [b, x]))])) rfl rfl (pures2 px pb) ?_ rfl rfl rfl (by cases t with | true => exact pures2 px pb | false => exact pures2 pb px)
  have e : exSs Δ 200 fsiftup.body (startVars fsiftup [.loc 0, .int 0]) [some (.lst [x, b])] = exSs Δ 194 [.expr (.mcall 2 (.var 0) [(.var 3), (.var 1)])] [some (.loc 0), some (.int 1), some (.int 2), some (.int 0), some x, some (.int 3), some (.int 2), none, none] [some (.lst [b, x])] := rfl
  exact e.trans (exSs_one (exS_expr (evE_mcall' (l := 0) (o := .var 0) (ds := [.int 0, .int 1]) rfl rfl rfl rfl (pures2 pb px) ((h2 [b, x] [.int 0, .int 1]).trans (down2 h hd pb px)) rfl)))
theorem pop1 (pa : a.pure = true) : runM Δ 200 fheappop [a] [] = some (a, []) := by
  refine runM_of (r := some (.ret a, [some (.loc 0), some a, none, none], [some (.lst [])])) rfl rfl (pures1 pa) ?_ rfl rfl pa rfl
  have e : exSs Δ 200 fheappop.body (startVars fheappop [.loc 0]) [some (.lst [a])] = exSs Δ 198 [.ret (.var 1)] [some (.loc 0), some a, none, none] [some (.lst [])] := rfl
  exact e.trans (exSs_ret (exS_ret (e := .var 1) rfl (frz_pure pa _)))
/-- a list of at least two: the last to the front, sifted up -/
theorem pop_ok {r0 : List D} (he : exSs Δ 200 fheappop.body (startVars fheappop [.loc 0]) [some (.lst xs)] = exSs Δ 198 [.ite (.var 0) [.asg [(.var 2)] (.idx (.var 0) (.lit (.int 0))), .setIdx (.var 0) (.lit (.int 0)) (.var 1), .expr (.mcall 3 (.var 0) [(.lit (.int 0))]), .ret (.var 2)] [], .ret (.var 1)] [some (.loc 0), some x, none, none] [some (.lst (a :: r0))]) (hl : (a :: r0).length ≤ maxLen) (h3 : Δ.muts 3 (x :: r0) [.int 0] = some (.none, zs)) (pxs : D.pures xs = true) (pr : D.pures (x :: r0) = true) (pa : a.pure = true) (pz : D.pures zs = true) : runM Δ 200 fheappop xs [] = some (a, zs) := by
  refine runM_of (r := some (.ret a, [some (.loc 0), some x, some a, none], [some (.lst zs)])) rfl rfl pxs ?_ rfl rfl pa pz
  have ht : trE Δ 196 (.var 0) [some (.loc 0), some x, none, none] [some (.lst (a :: r0))] = some (true, [some (.lst (a :: r0))]) := by
    refine (seq1_of (f := evE Δ 195 (.var 0) [some (.loc 0), some x, none, none]) (k := fun x σ => (truK x σ).map fun t => (t, σ)) rfl).trans ?_
    show ((if (a :: r0).length ≤ maxLen then some (!(a :: r0).isEmpty) else none).map _) = _
    rw [if_pos hl]; rfl
  refine he.trans (exSs_ret (exS_ifT ht ?_))
  refine (exSs_cons (vars' := [some (.loc 0), some x, some a, none]) (σ' := [some (.lst (a :: r0))]) rfl).trans ((exSs_cons (vars' := [some (.loc 0), some x, some a, none]) (σ' := [some (.lst (x :: r0))]) (exS_setIdx' (xs := a :: r0) (e := .var 1) (o := .var 0) (i := .lit (.int 0)) (k := 0) rfl rfl rfl rfl (Int.le_refl 0) rfl (Nat.succ_pos r0.length) rfl)).trans ((exSs_cons (exS_expr (evE_mcall' (l := 0) (o := .var 0) (ds := [.int 0]) rfl rfl rfl rfl pr h3 rfl))).trans (exSs_ret (exS_ret (e := .var 2) rfl (frz_pure pa _)))))
theorem pop2 {Δ2 : Dl} (h3 : ∀ xs ds, Δ.muts 3 xs ds = runM Δ' 200 fsiftup xs ds) (h2 : ∀ xs ds, Δ'.muts 2 xs ds = runM Δ2 200 fsiftdown xs ds) (pa : a.pure = true) (pb : b.pure = true) : runM Δ 200 fheappop [a, b] [] = some (a, [b]) :=
  pop_ok (r0 := []) rfl (by decide : 1 ≤ maxLen) ((h3 [b] [.int 0]).trans (up1 h2 pb)) (pures2 pa pb) (pures1 pb) pa (pures1 pb)
theorem pop3 {Δ2 : Dl} (h3 : ∀ xs ds, Δ.muts 3 xs ds = runM Δ' 200 fsiftup xs ds) (h2 : ∀ xs ds, Δ'.muts 2 xs ds = runM Δ2 200 fsiftdown xs ds) (h : ltD x b = some t) (hd : x.dep ≤ 50) (pa : a.pure = true) (pb : b.pure = true) (px : x.pure = true) : runM Δ 200 fheappop [a, b, x] [] = some (a, if t then [x, b] else [b, x]) :=
  pop_ok (r0 := [b]) rfl (by decide : 2 ≤ maxLen) ((h3 [x, b] [.int 0]).trans (up2 h2 h hd pb px)) (pures3 pa pb px) (pures2 px pb) pa (by cases t with | true => exact pures2 px pb | false => exact pures2 pb px)
end
end Ev
end
section
set_option maxRecDepth 100000
set_option autoImplicit false
set_option linter.all false
set_option maxHeartbeats 4000000
namespace Ev
open PySem
noncomputable def fEq (a b : UInt64) : Option Bool := if Float64.isNaN a || Float64.isNaN b then none else some (Float64.cmp a b == some Ordering.eq)
noncomputable def fLt (a b : UInt64) : Option Bool := if Float64.isNaN a || Float64.isNaN b then none else some (Float64.cmp a b == some Ordering.lt)
noncomputable def fGt (a b : UInt64) : Bool := Float64.cmp a b == some Ordering.gt
noncomputable def sel (t : Bool) (a b : UInt64) : UInt64 := if t then a else b
noncomputable def fMx (a b : UInt64) : UInt64 := sel (fGt b a) b a
noncomputable def fMax (r g b : UInt64) : UInt64 := fMx (fMx r g) b
noncomputable def fMn (a b : UInt64) : Option UInt64 := (fLt b a).map fun t => sel t b a
noncomputable def fMin (r g b : UInt64) : Option UInt64 := (fMn r g).bind fun m => fMn m b
theorem pick_flt {gt : D → D → Option Bool} {b x : UInt64} {xs : List D} {t : Bool} (h : gt (.flt x) (.flt b) = some t) : pickBest gt (.flt b) (.flt x :: xs) = pickBest gt (.flt (sel t x b)) xs := by
  show (match gt (.flt x) (.flt b) with | some true => pickBest gt (.flt x) xs | some false => pickBest gt (.flt b) xs | none => none) = _
  rw [h]
  cases t <;> rfl
theorem max_flts (r g b : UInt64) : biD .max [.flt r, .flt g, .flt b] = some (.flt (fMax r g b)) :=
  (pick_flt (t := fGt g r) rfl).trans (pick_flt (xs := []) (t := fGt b (fMx r g)) rfl)
theorem min_flts {r g b m : UInt64} (h : fMin r g b = some m) : biD .min [.flt r, .flt g, .flt b] = some (.flt m) :=
  bindE h fun m1 h1 h2 => mapE h1 fun t e1 q1 => mapE h2 fun u e2 q2 => by
    subst q1 q2
    exact (pick_flt (gt := cmpD .Lt) (t := t) e1).trans (pick_flt (gt := cmpD .Lt) (xs := []) (t := u) e2)
/-- rgb_to_hsv on floats, a colour that is not grey -/
noncomputable def hue0 (r g b mx mn : UInt64) (br bg : Bool) : UInt64 :=
  sel br (Float64.sub (Float64.div (Float64.sub mx b) (Float64.sub mx mn)) (Float64.div (Float64.sub mx g) (Float64.sub mx mn)))
    (sel bg (Float64.sub (Float64.add 4611686018427387904 (Float64.div (Float64.sub mx r) (Float64.sub mx mn))) (Float64.div (Float64.sub mx b) (Float64.sub mx mn)))
      (Float64.sub (Float64.add 4616189618054758400 (Float64.div (Float64.sub mx g) (Float64.sub mx mn))) (Float64.div (Float64.sub mx r) (Float64.sub mx mn))))
noncomputable def hue1 (x : UInt64) : UInt64 := (Float64.divmod (Float64.div x 4618441417868443648) 4607182418800017408).2
section
variable {Δ : Dl} {n : Nat} {vars : Vars} {σ σ1 σ2 : Sto}
/-- a sum, a product .. by binD, floats allowed -/
theorem evE_bd {op : Operator} {a b : E} {x y d : D} (hot : Δ.hot = true) (h1 : evE Δ n a vars σ = some (x, σ1)) (h2 : evE Δ n b vars σ1 = some (y, σ2)) (hx : res σ2 x = some x) (hy : res σ2 y = some y) (ha : addL op x y = none) (h : binD op x y = some d) : evE Δ (n + 1) (.bin op a b) vars σ = some (d, σ2) := by
  rw [evE_bin h1 h2]
  unfold binK
  rw [hx]
  show ((res σ2 y).bind _) = _
  rw [hy]
  show binR Δ op x y σ2 = _
  unfold binR
  rw [ha]
  show (binD op x y).bind _ = _
  rw [h]
  show hotK Δ d σ2 = _
  unfold hotK
  rw [hot, Bool.not_true, Bool.and_false]; rfl
theorem evE_lit {d : D} (hot : Δ.hot = true) : evE Δ (n + 1) (.lit d) vars σ = some (d, σ) := by
  show hotK Δ d σ = _
  unfold hotK
  rw [hot, Bool.not_true, Bool.and_false]; rfl
theorem biK_of {b : Bi} {ds ds' : List D} {d : D} (hr : ress σ ds = some ds') (hb : biD b ds' = some d) : biK b ds σ = some (d, σ) := by
  unfold biK
  rw [hr]
  show (biD b ds').map _ = _
  rw [hb]; rfl
theorem evE_bi_of {b : Bi} {es : List E} {ds ds' : List D} {d : D} (h : evEs Δ n es vars σ = some (ds, σ1)) (hr : ress σ1 ds = some ds') (hb : biD b ds' = some d) (hl : listArg b es = none) (hs : (b == .sorted) = false) : evE Δ (n + 1) (.bi b es) vars σ = some (d, σ1) := by
  show (match listArg b es with
      | some a => seq1 (itE Δ n a vars) (fun ds σ => some (D.lst ds, σ)) σ
      | none => if b == Bi.sorted && !Δ.srt then none else seq1 (evEs Δ n es vars) (biK b) σ) = _
  rw [hl]
  show (if (b == Bi.sorted && !Δ.srt) = true then none else _) = _
  rw [hs]
  exact (seq1_of h).trans (biK_of hr hb)
end
theorem div_ff {p q : UInt64} (z : Float64.isZero q = false) : binD .Div (.flt p) (.flt q) = some (.flt (Float64.div p q)) := if_neg (by rw [z]; decide)
theorem mod_ff {p q : UInt64} (z : Float64.isZero q = false) : binD .Mod (.flt p) (.flt q) = some (.flt (Float64.divmod p q).2) := if_neg (by rw [z]; decide)
theorem z6 : Float64.isZero 4618441417868443648 = false := by decide +kernel
theorem z1 : Float64.isZero 4607182418800017408 = false := by decide +kernel
theorem rgb_col {Δ : Dl} (hot : Δ.hot = true) {r g b mx mn : UInt64} {br bg : Bool} (hmax : biD .max [.flt r, .flt g, .flt b] = some (.flt mx)) (hmin : biD .min [.flt r, .flt g, .flt b] = some (.flt mn)) (h2 : fEq mn mx = some false) (zm : Float64.isZero mx = false) (zd : Float64.isZero (Float64.sub mx mn) = false) (h3 : fEq r mx = some br) (h4 : fEq g mx = some bg) :
    runP Δ 200 frgbtohsv [.flt r, .flt g, .flt b] = some (.tup [.flt (hue1 (hue0 r g b mx mn br bg)), .flt (Float64.div (Float64.sub mx mn) mx), .flt mx]) := by
  refine Rets.run (Rets.asg (x := .flt mx) (evE_bi_of (ds := [.flt r, .flt g, .flt b]) rfl rfl hmax rfl rfl) rfl
    (Rets.asg (x := .flt mn) (evE_bi_of (ds := [.flt r, .flt g, .flt b]) rfl rfl hmin rfl rfl) rfl
    (Rets.asg (evE_bd (a := .var 3) (b := .var 4) hot rfl rfl rfl rfl rfl rfl) rfl
    (Rets.asg (e := .var 3) rfl rfl
    (Rets.skip (tr_cmp (a := .var 4) (b := .var 3) rfl rfl rfl rfl (show cmpR .Eq (.flt mn) (.flt mx) = some false from h2))
    (Rets.asg (evE_bd (a := .var 5) (b := .var 3) hot rfl rfl rfl rfl rfl (div_ff zm)) rfl
    (Rets.asg (evE_bd (b := .var 5) hot (evE_bd (a := .var 3) (b := .var 0) hot rfl rfl rfl rfl rfl rfl) rfl rfl rfl rfl (div_ff zd)) rfl
    (Rets.asg (evE_bd (b := .var 5) hot (evE_bd (a := .var 3) (b := .var 1) hot rfl rfl rfl rfl rfl rfl) rfl rfl rfl rfl (div_ff zd)) rfl
    (Rets.asg (evE_bd (b := .var 5) hot (evE_bd (a := .var 3) (b := .var 2) hot rfl rfl rfl rfl rfl rfl) rfl rfl rfl rfl (div_ff zd)) rfl
    (Rets.step (σ' := []) (vars' := [some (.flt r), some (.flt g), some (.flt b), some (.flt mx), some (.flt mn), some (.flt (Float64.sub mx mn)), some (.flt mx), some (.flt (Float64.div (Float64.sub mx mn) mx)), some (.flt (Float64.div (Float64.sub mx r) (Float64.sub mx mn))), some (.flt (Float64.div (Float64.sub mx g) (Float64.sub mx mn))), some (.flt (Float64.div (Float64.sub mx b) (Float64.sub mx mn))), some (.flt (hue0 r g b mx mn br bg)), none, none]) ?_
    (Rets.asg (evE_bd hot (evE_bd (a := .var 11) (x := .flt (hue0 r g b mx mn br bg)) hot rfl (evE_lit (d := .flt 4618441417868443648) hot) rfl rfl rfl (div_ff z6)) (evE_lit (d := .flt 4607182418800017408) hot) rfl rfl rfl (mod_ff z1)) rfl
    (Rets.ret (x := .tup [.flt (hue1 (hue0 r g b mx mn br bg)), .flt (Float64.div (Float64.sub mx mn) mx), .flt mx]) rfl rfl)))))))))))) rfl rfl rfl
  cases br with
  | true => exact exS_ifT (tr_cmp (a := .var 0) (b := .var 3) rfl rfl rfl rfl (show cmpR .Eq (.flt r) (.flt mx) = some true from h3)) (exSs_one (exS_asg1 (evE_bd (a := .var 10) (b := .var 9) hot rfl rfl rfl rfl rfl rfl) rfl))
  | false =>
    refine exS_ifF (tr_cmp (a := .var 0) (b := .var 3) rfl rfl rfl rfl (show cmpR .Eq (.flt r) (.flt mx) = some false from h3)) (exSs_one ?_)
    cases bg with
    | true => exact exS_ifT (tr_cmp (a := .var 1) (b := .var 3) rfl rfl rfl rfl (show cmpR .Eq (.flt g) (.flt mx) = some true from h4)) (exSs_one (exS_asg1 (evE_bd (b := .var 10) hot (evE_bd (b := .var 8) hot (evE_lit (d := .flt 4611686018427387904) hot) rfl rfl rfl rfl rfl) rfl rfl rfl rfl rfl) rfl))
    | false => exact exS_ifF (tr_cmp (a := .var 1) (b := .var 3) rfl rfl rfl rfl (show cmpR .Eq (.flt g) (.flt mx) = some false from h4)) (exSs_one (exS_asg1 (evE_bd (b := .var 8) hot (evE_bd (b := .var 9) hot (evE_lit (d := .flt 4616189618054758400) hot) rfl rfl rfl rfl rfl) rfl rfl rfl rfl rfl) rfl))
end Ev
end
section
set_option maxRecDepth 100000
set_option autoImplicit false
set_option linter.all false
set_option maxHeartbeats 4000000
namespace Ev
open PySem
theorem intsOf_map : ∀ l : List Int, intsOf (l.map .int) = some l
  | [] => rfl
  | i :: l => by show (intsOf (l.map .int)).map (i :: ·) = _; rw [intsOf_map l]; rfl
theorem sum_lst {xs : List D} {l : List Int} (h : xs = l.map .int) : biD .sum [.lst xs] = some (.int (sumInts l)) := by
  show (intsOf xs).map (fun is => D.int (sumInts is)) = _
  rw [h, intsOf_map]; rfl
theorem filterMap_map_get (zs : List Int) : ∀ l : List Nat, l.filterMap ((zs.map D.int)[·]?) = (l.filterMap (zs[·]?)).map .int
  | [] => rfl
  | k :: l => by
    have ih := filterMap_map_get zs l
    have h : (zs.map D.int)[k]? = (zs[k]?).map .int := List.getElem?_map ..
    cases q : zs[k]? with
    | none => rw [q] at h; rw [List.filterMap_cons_none h, List.filterMap_cons_none q]; exact ih
    | some v => rw [q] at h; rw [List.filterMap_cons_some h, List.filterMap_cons_some q, List.map_cons, ih]
/-- a slice of a list of ints is one -/
theorem sli_ints {zs : List Int} {lo hi st : Option Int} (h : zs.length ≤ maxLen) (h0 : st ≠ some 0) : ∃ ys : List Int, sliD (.lst (zs.map .int)) lo hi st = some (.lst (ys.map .int)) := by
  refine ⟨((sliceRange (sliceBounds lo hi st (zs.map D.int).length).1 (sliceBounds lo hi st (zs.map D.int).length).2.1 (sliceBounds lo hi st (zs.map D.int).length).2.2).filterMap (zs[·]?)), ?_⟩
  rw [← filterMap_map_get]
  exact if_pos ⟨by rw [List.length_map]; exact h, h0⟩
theorem one_fits (n a : Nat) : min (min (a + 1) n - min a n) (n - min a n) ≤ 1 := by
  refine Nat.le_trans (Nat.min_le_left ..) (Nat.sub_le_of_le_add ?_)
  rcases Nat.le_total a n with h | h
  · rw [Nat.min_eq_left h, Nat.add_comm]; exact Nat.min_le_left ..
  · rw [Nat.min_eq_right h]; exact Nat.le_trans (Nat.min_le_right ..) (Nat.le_add_left ..)
theorem sli_one {zs : List Int} (h : zs.length ≤ maxLen) (a : Nat) : ∃ ys : List Int, sliD (.lst (zs.map .int)) (some (a : Int)) (some ((a + 1 : Nat) : Int)) none = some (.lst (ys.map .int)) ∧ ys.length ≤ 1 := by
  refine ⟨(zs.drop (clipAt zs.length a)).take (clipAt zs.length ((a + 1 : Nat) : Int) - clipAt zs.length a), ?_, ?_⟩
  · have e := pick_run (xs := zs.toArray) (clipAt zs.length a) (clipAt zs.length ((a + 1 : Nat) : Int) - clipAt zs.length a)
    simp only [List.getElem?_toArray] at e
    refine (if_pos ⟨by rw [List.length_map]; exact h, fun h => noneE h⟩).trans ?_
    rw [sliceBounds_plain]
    show some (D.lst ((sliceRange (clipAt (zs.map D.int).length a) (clipAt (zs.map D.int).length ((a + 1 : Nat) : Int)) 1).filterMap ((zs.map D.int)[·]?))) = _
    rw [List.length_map, sliceRange_one, filterMap_map_get]
    exact congrArg (fun l => some (D.lst (l.map .int))) e
  · rw [clipAt_nat, clipAt_nat, List.length_take, List.length_drop]
    exact one_fits _ _
theorem joinD_nil : ∀ l : List (List Nat), joinD [] (l.map .str) = some l.flatten
  | [] => rfl
  | [a] => congrArg some (List.append_nil a).symm
  | a :: b :: l => by
    show (joinD [] ((b :: l).map .str)).map (a ++ [] ++ ·) = _
    rw [joinD_nil (b :: l), List.append_nil]; rfl
theorem rep_one (c : Nat) : ∀ n : Nat, (List.replicate n [c]).flatten = List.replicate n c
  | 0 => rfl
  | n + 1 => congrArg (c :: ·) (rep_one c n)
theorem runText_flatten : ∀ (runs : List Nat), (runs.map fun r => List.replicate r 32 ++ [9]).flatten = runText runs
  | [] => rfl
  | r :: runs => congrArg (List.replicate r 32 ++ [9] ++ ·) (runText_flatten runs)
theorem run_fits {l k r b : Nat} (ih : l ≤ k * (b + 1)) (h1 : r ≤ b) : r + 1 + l ≤ (k + 1) * (b + 1) := by rw [Nat.add_mul]; omega
theorem runText_len : ∀ (runs : List Nat) (b : Nat), (∀ r ∈ runs, r ≤ b) → (runText runs).length ≤ runs.length * (b + 1)
  | [], _, _ => Nat.zero_le _
  | r :: runs, b, h => by
    have ih := runText_len runs b (fun q hq => h q (List.mem_cons_of_mem _ hq))
    show (List.replicate r 32 ++ [9] ++ runText runs).length ≤ _
    rw [List.length_append, List.length_append, List.length_replicate]
    exact run_fits ih (h r List.mem_cons_self)
theorem rep_ascii : ∀ r : Nat, (List.replicate r 32).all (· < 128) = true
  | 0 => rfl
  | r + 1 => rep_ascii r
theorem runText_ascii : ∀ (runs : List Nat), (runText runs).all (· < 128) = true
  | [] => rfl
  | r :: runs => by
    show (List.replicate r 32 ++ [9] ++ runText runs).all _ = true
    rw [List.all_append, List.all_append, rep_ascii, runText_ascii runs]; rfl
/-- ' ' * r + '\t' -/
theorem runStr {r : Nat} (h : r ≤ 9999) : binD .Mult (.str [32]) (.int r) = some (.str (List.replicate r 32)) := by
  have h1 : small (r : Int) = true := small_le (Nat.le_trans h (by decide))
  have h2 : 1 * r ≤ maxLen := by rw [Nat.one_mul]; exact Nat.le_trans h (by decide)
  refine (if_pos (show (small (r : Int) && decide (1 * r ≤ maxLen)) = true by rw [h1, decide_eq_true h2]; rfl)).trans ?_
  rw [Int.toNat_natCast, rep_one]
section
variable {Δ : Dl} {n : Nat} {vars : Vars} {σ σ1 σ2 : Sto}
theorem evE_join {o a : E} {s t : List Nat} {xs : List D} (h1 : evE Δ n o vars σ = some (.str s, σ1)) (h2 : evE Δ n a vars σ1 = some (.lst xs, σ2)) (hj : joinD s xs = some t) (hl : t.length + xs.length + s.length ≤ maxLen) : evE Δ (n + 1) (.join o a) vars σ = some (.str t, σ2) :=
  (seq1_of (k := fun x => seq1 (evE Δ n a vars) (joinK x)) h1).trans ((seq1_of h2).trans (by
    show (joinD s xs).bind _ = _
    rw [hj]
    show (if t.length + xs.length + s.length ≤ maxLen then some (D.str t, σ2) else none) = _
    rw [if_pos hl]))
theorem evE_new {a : E} {x d : D} (h1 : evE Δ n a vars σ = some (x, σ1)) (hp : x.pure = true) (hn : Δ.new x = some d) : evE Δ (n + 1) (.new a) vars σ = some (d, σ1) :=
  (seq1_of (k := newK Δ) h1).trans (by unfold newK; rw [if_pos hp, hn]; rfl)
/-- a comprehension: what each item turns to -/
theorem compD_turns {α : Type} {t : T} {tst : Vars → Sto → Option (Bool × Sto)} {el : Vars → Sto → Option (D × Sto)} (enc out : α → D) (p : α → Bool) (I : Vars → Prop) : ∀ {l : List α} {vs : Vars}, (∀ a ∈ l, ∀ vs, I vs → ∃ vs', asgT t (enc a) vs = some vs' ∧ I vs' ∧ tst vs' σ = some (p a, σ) ∧ (p a = true → el vs' σ = some (out a, σ))) → I vs → compD (turnD t tst el) (l.map enc) vs σ = some ((l.filter p).map out, σ)
  | [], _, _, _ => rfl
  | a :: l, vs, hf, i => by
    obtain ⟨vs', e1, i', e2, e3⟩ := hf a List.mem_cons_self vs i
    have ih := compD_turns enc out p I (l := l) (vs := vs') (fun b hb => hf b (List.mem_cons_of_mem _ hb)) i'
    show ((asgT t (enc a) vs).bind _).bind _ = _
    rw [e1]
    show ((tst vs' σ).bind _).bind _ = _
    rw [e2, List.filter_cons]
    cases q : p a with
    | false => show (compD (turnD t tst el) (l.map enc) vs' σ).map _ = _; rw [ih]; rfl
    | true =>
      show ((el vs' σ).map _).bind _ = _
      rw [e3 q]
      show (compD (turnD t tst el) (l.map enc) vs' σ).map _ = _
      rw [ih]; rfl
theorem tes_nil {vs : Vars} : tesE Δ (n + 1) [] vs σ = some (true, σ) := rfl
theorem tes_one {c : E} {vs : Vars} {b : Bool} (h : trE Δ (n + 1) c vs σ = some (b, σ)) : tesE Δ (n + 1 + 1) [c] vs σ = some (b, σ) :=
  (seq1_of (k := fun (t : Bool) (σ : Sto) => if t then tesE Δ (n + 1) [] vs σ else some (false, σ)) h).trans (by cases b <;> rfl)
theorem evE_compF {α : Type} (enc out : α → D) (p : α → Bool) (I : Vars → Prop) {l : List α} {ini : List (Option Nat)} {elt it c : E} {t : T} (hi : itE Δ (n + 1 + 1) it vars σ = some (l.map enc, σ1)) (hc : capOk vars ini = true) (hl : l.length ≤ maxLen)
    (hf : ∀ a ∈ l, ∀ vs, I vs → ∃ vs', asgT t (enc a) vs = some vs' ∧ I vs' ∧ trE Δ (n + 1) c vs' σ1 = some (p a, σ1) ∧ (p a = true → evE Δ (n + 1 + 1) elt vs' σ1 = some (out a, σ1))) (i : I (capture vars ini)) : evE Δ (n + 1 + 1 + 1) (.comp ini elt t it [c]) vars σ = some (.lst ((l.filter p).map out), σ1) :=
  evE_comp hi hc (by rw [List.length_map]; exact hl) (compD_turns enc out p I (fun a ha vs i => let ⟨vs', e1, i', e2, e3⟩ := hf a ha vs i; ⟨vs', e1, i', tes_one e2, e3⟩) i)
theorem evE_compM {α : Type} (enc out : α → D) (I : Vars → Prop) {l : List α} {ini : List (Option Nat)} {elt it : E} {t : T} (hi : itE Δ (n + 1) it vars σ = some (l.map enc, σ1)) (hc : capOk vars ini = true) (hl : l.length ≤ maxLen)
    (hf : ∀ a ∈ l, ∀ vs, I vs → ∃ vs', asgT t (enc a) vs = some vs' ∧ I vs' ∧ evE Δ (n + 1) elt vs' σ1 = some (out a, σ1)) (i : I (capture vars ini)) : evE Δ (n + 1 + 1) (.comp ini elt t it []) vars σ = some (.lst (l.map out), σ1) := by
  have h := evE_comp (elt := elt) (t := t) (ifs := []) hi hc (by rw [List.length_map]; exact hl) (compD_turns enc out (fun _ => true) I (fun a ha vs i => let ⟨vs', e1, i', e2⟩ := hf a ha vs i; ⟨vs', e1, i', rfl, fun _ => e2⟩) i)
  rw [List.filter_eq_self.mpr (fun _ _ => rfl)] at h
  exact h
/-- a for whose turns leave the store alone -/
theorem forD_all {α : Type} {f : D → Vars → Sto → Option (Flw × Vars × Sto)} (enc : α → D) (I : Vars → Prop) : ∀ {l : List α} {vs : Vars}, (∀ a ∈ l, ∀ vs, I vs → ∃ vs', f (enc a) vs σ = some (.next, vs', σ) ∧ I vs') → I vs → ∃ vs', forD f (l.map enc) vs σ = some (.next, vs', σ) ∧ I vs'
  | [], vs, _, i => ⟨vs, rfl, i⟩
  | a :: l, vs, hf, i => by
    obtain ⟨vs', e, i'⟩ := hf a List.mem_cons_self vs i
    obtain ⟨vs2, e2, i2⟩ := forD_all enc I (l := l) (fun b hb => hf b (List.mem_cons_of_mem _ hb)) i'
    exact ⟨vs2, (for_turn e).trans e2, i2⟩
/-- over a frozen list -/
theorem itE_lst {α : Type} {enc : α → D} {l : List α} {i : Nat} (h : (vars[i]?).join = some (.lst (l.map enc))) (hl : l.length ≤ maxLen) : itE Δ (n + 1 + 1) (.var i) vars σ = some (l.map enc, σ) := by
  refine (seq1_of (f := evE Δ (n + 1) (.var i) vars) (k := itK) (x := .lst (l.map enc)) (σ1 := σ) ?_).trans ?_
  · show (vars[i]?.join).map _ = _
    rw [h]; rfl
  · show (if (l.map enc).length ≤ maxLen then _ else none) = _
    rw [if_pos (by rw [List.length_map]; exact hl)]
/-- over a live list: it is frozen -/
theorem itE_loc {α : Type} {enc : α → D} {l : List α} {i k : Nat} (h : (vars[i]?).join = some (.loc k)) (hk : σ[k]? = some (some (.lst (l.map enc)))) (hl : l.length ≤ maxLen) : itE Δ (n + 1 + 1) (.var i) vars σ = some (l.map enc, σ.set k none) := by
  refine (seq1_of (f := evE Δ (n + 1) (.var i) vars) (k := itK) (x := .loc k) (σ1 := σ) ?_).trans ?_
  · show (vars[i]?.join).map _ = _
    rw [h]; rfl
  · show (match σ[k]? with | some (some m) => some (MObj.toD m, σ.set k none) | _ => none).bind _ = _
    rw [hk]
    show (if (l.map enc).length ≤ maxLen then _ else none) = _
    rw [if_pos (by rw [List.length_map]; exact hl)]
end
theorem eqDs_refl {α : Type} (enc : α → D) (h : ∀ a, eqD (enc a) (enc a) = some true) : ∀ l : List α, eqDs (l.map enc) (l.map enc) = some true
  | [] => rfl
  | a :: l => by
    show (eqD (enc a) (enc a)).bind _ = _
    rw [h a]
    show (eqDs (l.map enc) (l.map enc)).map _ = _
    rw [eqDs_refl enc h l]; rfl
theorem deps_map {α : Type} (enc : α → D) {k : Nat} (h : ∀ a, (enc a).dep ≤ k) : ∀ l : List α, D.deps (l.map enc) ≤ k
  | [] => Nat.zero_le _
  | a :: l => Nat.max_le.mpr ⟨h a, deps_map enc h l⟩
theorem eq_same {α : Type} (enc : α → D) (h : ∀ a, eqD (enc a) (enc a) = some true) (l : List α) : eqD (.lst (l.map enc)) (.lst (l.map enc)) = some true := by
  show (if (l.map enc).length == (l.map enc).length then eqDs (l.map enc) (l.map enc) else some false) = _
  rw [beq_self_eq_true, eqDs_refl enc h l]; rfl
theorem dep_lst {α : Type} (enc : α → D) {k : Nat} (h : ∀ a, (enc a).dep ≤ k) (hk : k ≤ 49) (l : List α) : (D.lst (l.map enc)).dep ≤ 50 := Nat.succ_le_succ (Nat.le_trans (deps_map enc h l) hk)
theorem cmpR_eq {x y : D} {t : Bool} (hd : x.dep ≤ 50) (h : eqD x y = some t) : cmpR .Eq x y = some t := (if_pos hd).trans h
theorem cmpR_ne {x y : D} {t : Bool} (hd : x.dep ≤ 50) (h : eqD x y = some t) : cmpR .NotEq x y = some (!t) := (if_pos hd).trans (by show (eqD x y).map _ = _; rw [h]; rfl)
theorem longest_mem : ∀ {runs : List Nat} {r : Nat}, r ∈ runs → r + 1 ≤ longest runs
  | r' :: runs, r, h => by
    rcases List.mem_cons.mp h with rfl | h
    · exact Nat.le_max_left ..
    · exact Nat.le_trans (longest_mem h) (Nat.le_max_right ..)
theorem longest_le : ∀ {runs : List Nat} {b : Nat}, (∀ r ∈ runs, r ≤ b) → longest runs ≤ b + 1
  | [], _, _ => Nat.zero_le _
  | r :: runs, b, h => Nat.max_le.mpr ⟨Nat.succ_le_succ (h r List.mem_cons_self), longest_le (runs := runs) (fun q hq => h q (List.mem_cons_of_mem _ hq))⟩
theorem succ_shift (a : Int) (m : Nat) : a + 1 + (m : Int) = a + ((m + 1 : Nat) : Int) := by omega
theorem intsFrom_app : ∀ (m : Nat) (a : Int) (n : Nat), intsFrom a (m + n) = intsFrom a m ++ intsFrom (a + m) n
  | 0, a, n => by rw [Nat.zero_add, Int.natCast_zero, Int.add_zero]; rfl
  | m + 1, a, n => by
    rw [Nat.add_right_comm]
    show a :: intsFrom (a + 1) (m + n) = a :: (intsFrom (a + 1) m ++ _)
    rw [intsFrom_app m, succ_shift]
end Ev
end
section
set_option maxRecDepth 100000
set_option autoImplicit false
set_option linter.all false
namespace Ev
open PySem PySem.W PySem.Calls PyProof.Rows PySem.SeqAt
noncomputable def C3 : Cc := Cc.mk ["rgb_to_hsv", "_law_turned", "_law_spot", "_law_cross", "_law_name", "_law_back", "_law_common", "_law_runs", "_law_lead"] ["heappush", "heappop", "_siftdown", "_siftup"] ["longest_run_of_spaces", "indent_level", "not_equal_witness"] "Whitespace" [("S", [32]), ("T", [9])]
noncomputable def flawturned : Fn := ⟨1, 1, [
  .ret (.lst [(.bin .Sub (.idx (.var 0) (.lit (.int 0))) (.idx (.var 0) (.lit (.int 1)))), (.idx (.var 0) (.lit (.int 0)))])]⟩
noncomputable def flawspot : Fn := ⟨5, 1, [
  .asg [(.var 1)] (.lst [(.bin .Add (.lit (.int 1)) (.bin .Mod (.var 0) (.lit (.int 4)))), (.bin .Mod (.bin .FloorDiv (.var 0) (.lit (.int 4))) (.lit (.int 5)))]),
  .for (.var 2) (.bi .range [(.bin .Mod (.bin .FloorDiv (.var 0) (.lit (.int 20))) (.lit (.int 6)))]) [.asg [(.var 1)] (.call 1 [(.var 1)])],
  .ret (.var 1)]⟩
noncomputable def flawcross : Fn := ⟨2, 2, [
  .ret (.bin .Sub (.bin .Mult (.idx (.var 0) (.lit (.int 0))) (.idx (.var 1) (.lit (.int 1)))) (.bin .Mult (.idx (.var 0) (.lit (.int 1))) (.idx (.var 1) (.lit (.int 0)))))]⟩
noncomputable def flawname : Fn := ⟨12, 2, [
  .asg [(.var 2)] (.bin .Sub (.var 1) (.bi .min [(.idx (.var 0) (.lit (.int 0))), (.idx (.var 0) (.lit (.int 1))), (.lit (.int 0))])),
  .asg [(.tup [3, 4, 5])] (.call 0 [(.bin .Div (.bin .Add (.var 2) (.idx (.var 0) (.lit (.int 0)))) (.lit (.flt 4634204016564240384))), (.bin .Div (.bin .Add (.var 2) (.idx (.var 0) (.lit (.int 1)))) (.lit (.flt 4634204016564240384))), (.bin .Div (.var 2) (.lit (.flt 4634204016564240384)))]),
  .asg [(.var 6)] (.bi .round [(.bin .Mult (.bin .Mult (.lit (.int 64)) (.var 4)) (.var 5))]),
  .asg [(.var 7)] (.bi .round [(.bin .Mult (.bin .Mult (.lit (.int 6)) (.var 6)) (.var 3))]),
  .asg [(.var 8)] (.bin .Mod (.var 7) (.var 6)),
  .ret (.tup [(.bin .Sub (.bin .Mult (.var 8) (.bin .Sub (.var 6) (.var 8))) (.bin .Mult (.var 6) (.var 6))), (.var 6), (.var 7)])]⟩
noncomputable def flawback : Fn := ⟨9, 2, [
  .asg [(.var 2)] (.lst [(.tup [(.lit (.int 1)), (.lit (.int 0))]), (.tup [(.lit (.int 1)), (.lit (.int 1))]), (.tup [(.lit (.int 0)), (.lit (.int 1))]), (.tup [(.neg (.lit (.int 1))), (.lit (.int 0))]), (.tup [(.neg (.lit (.int 1))), (.neg (.lit (.int 1)))]), (.tup [(.lit (.int 0)), (.neg (.lit (.int 1)))])]),
  .asg [(.tup [3, 4])] (.bi .divmod [(.var 1), (.var 0)]),
  .asg [(.var 5)] (.idx (.var 2) (.bin .Mod (.var 3) (.lit (.int 6)))),
  .asg [(.var 6)] (.idx (.var 2) (.bin .Mod (.bin .Add (.var 3) (.lit (.int 1))) (.lit (.int 6)))),
  .ret (.comp [none, none, some 5, some 0, some 6, some 4] (.bin .Add (.bin .Mult (.bin .Sub (.var 3) (.var 5)) (.idx (.var 2) (.var 1))) (.bin .Mult (.var 5) (.idx (.var 4) (.var 1)))) (.var 1) (.bi .range [(.lit (.int 2))]) [])]⟩
noncomputable def flawcommon : Fn := ⟨19, 2, [
  .asg [(.var 2)] (.lst []),
  .for (.var 3) (.var 0) [.expr (.mcall 0 (.var 2) [(.var 3)])],
  .wh (.cmp .Gt (.bi .len [(.var 2)]) (.lit (.int 1))) [.asg [(.tup [4, 5, 6])] (.mcall 1 (.var 2) []), .asg [(.tup [7, 8, 9])] (.idx (.var 2) (.lit (.int 0))), .asg [(.var 10)] (.bin .FloorDiv (.bin .Add (.bin .Mult (.lit (.int 2)) (.bin .Sub (.bin .Mult (.var 6) (.var 8)) (.bin .Mult (.var 9) (.var 5)))) (.bin .Mult (.var 5) (.var 8))) (.bin .Mult (.bin .Mult (.lit (.int 2)) (.var 5)) (.var 8))), .asg [(.var 11)] (.call 5 [(.var 5), (.var 6)]), .asg [(.var 12)] (.call 5 [(.var 8), (.bin .Add (.var 9) (.bin .Mult (.var 10) (.var 8)))]), .asg [(.var 13)] (.lst [(.bin .Sub (.idx (.var 11) (.lit (.int 0))) (.idx (.var 12) (.lit (.int 0)))), (.bin .Sub (.idx (.var 11) (.lit (.int 1))) (.idx (.var 12) (.lit (.int 1))))]), .ite (.cmp .NotEq (.var 13) (.lst [(.lit (.int 0)), (.lit (.int 0))])) [.expr (.mcall 0 (.var 2) [(.call 4 [(.var 13), (.var 1)])])] []],
  .ret (.idx (.var 2) (.lit (.int 0)))]⟩
noncomputable def flawruns : Fn := ⟨8, 1, [
  .asg [(.var 1)] (.lst []),
  .for (.var 2) (.bi .range [(.bi .len [(.var 0)])]) [.expr (.append (.var 1) (.call 3 [(.idx (.var 0) (.var 2)), (.call 1 [(.idx (.var 0) (.var 2))])])), .for (.var 3) (.bi .range [(.var 2)]) [.expr (.append (.var 1) (.call 3 [(.idx (.var 0) (.var 3)), (.idx (.var 0) (.var 2))])), .expr (.append (.var 1) (.call 3 [(.idx (.var 0) (.var 3)), (.call 1 [(.idx (.var 0) (.var 2))])]))]],
  .ret (.comp [none, none, none] (.bi .abs [(.var 1)]) (.var 1) (.var 1) [(.cmp .NotEq (.var 1) (.lit (.int 0)))])]⟩
noncomputable def flawlead : Fn := ⟨2, 1, [
  .ret (.new (.bin .Add (.join (.lit (.str [])) (.comp [none, none] (.bin .Add (.bin .Mult (.lit (.str [32])) (.var 1)) (.lit (.str [9]))) (.var 1) (.var 0) [])) (.lit (.str [120, 32, 9]))))]⟩
noncomputable def flaw : Fn := ⟨24, 1, [
  .asg [(.var 1)] (.bin .Add (.comp [none, none, none, none, some 0] (.bin .Add (.var 2) (.bi .sum [(.sli (.var 4) (some (.var 1)) (some (.bin .Add (.var 1) (.lit (.int 1)))) none)])) (.tup [1, 2]) (.bi .enumerate [(.lst [(.lit (.int 2)), (.lit (.int 91))])]) []) (.sli (.var 0) (some (.lit (.int 2))) (some (.lit (.int 3))) none)),
  .asg [(.var 2)] (.comp [none, none, none] (.call 2 [(.bin .Mod (.var 1) (.lit (.int 120)))]) (.var 1) (.var 1) []),
  .asg [(.var 3)] (.bin .Mod (.bi .sum [(.sli (.var 0) none (some (.lit (.int 3))) none)]) (.lit (.int 4))),
  .asg [(.var 5)] (.comp [none, none, none, some 3] (.call 4 [(.var 1), (.var 3)]) (.var 1) (.var 2) []),
  .ite (.cmp .NotEq (.comp [none, none, none, none, none] (.call 5 [(.var 2), (.var 3)]) (.tup [1, 2, 3]) (.var 5) []) (.var 2)) [.ret (.lit (.bool false))] [],
  .asg [(.tup [6, 7, 8])] (.call 6 [(.var 5), (.var 3)]),
  .asg [(.var 9)] (.call 5 [(.var 7), (.var 8)]),
  .asg [(.var 10)] (.call 1 [(.var 9)]),
  .asg [(.var 11)] (.call 3 [(.var 9), (.var 10)]),
  .ite (.cmp .NotEq (.var 11) (.bin .Sub (.lit (.int 0)) (.var 6))) [.ret (.lit (.bool false))] [],
  .for (.var 4) (.var 2) [.ite (.either (.cmp .NotEq (.bin .Mod (.call 3 [(.var 4), (.var 10)]) (.var 11)) (.lit (.int 0))) (.cmp .NotEq (.bin .Mod (.call 3 [(.var 9), (.var 4)]) (.var 11)) (.lit (.int 0)))) [.ret (.lit (.bool false))] []],
  .asg [(.var 12)] (.call 7 [(.var 2)]),
  .asg [(.var 13)] (.meth 102 (.call 8 [(.var 12)]) [(.call 8 [(.comp [none, none] (.bin .Sub (.var 1) (.lit (.int 1))) (.var 1) (.var 12) [])])]),
  .asg [(.var 14)] (.comp [none, none, none, none, none, some 12] (.var 1) (.tup [1, 2, 3]) (.var 13) [(.cmp .Eq (.bin .Sub (.var 2) (.var 3)) (.bin .Mult (.var 1) (.bi .len [(.var 5)])))]),
  .ret (.cmp .Eq (.var 14) (.comp [none, none, some 11] (.var 1) (.var 1) (.bi .range [(.lit (.int 1)), (.bin .Add (.var 11) (.lit (.int 1)))]) [(.cmp .Eq (.bin .Mod (.var 2) (.var 1)) (.lit (.int 0)))]))]⟩
noncomputable def T3fns : Nat → Option Fn
    | 0 => some frgbtohsv
    | 1 => some flawturned
    | 2 => some flawspot
    | 3 => some flawcross
    | 4 => some flawname
    | 5 => some flawback
    | 6 => some flawcommon
    | 7 => some flawruns
    | 8 => some flawlead
    | 100 => some flongestrunofspaces
    | 101 => some findentlevel
    | 102 => some fnotequalwitness
    | _ => none
noncomputable def T3muts : Nat → Option Fn
    | 0 => some fheappush
    | 1 => some fheappop
    | 2 => some fsiftdown
    | 3 => some fsiftup
    | _ => none
noncomputable def T3 : Tbl := ⟨T3fns, T3muts, finit⟩

noncomputable def e3 : E := match flaw.body with
  | .asg _ e :: _ => e
  | _ => .lit .none
noncomputable def r3 : List S := flaw.body.tail
noncomputable def vs3 (zs : List Int) : Vars := startVars flaw [.lst (zs.map .int)]
noncomputable def Plain3 : Prop := ∀ zs : List Int, zs.length ≤ 63 → ∃ m1 m2 d1 σ1 vars2 σ2, evE (lev T3 false false 6) m1 e3 (vs3 zs) [] = some (d1, σ1) ∧ exSs (lev T3 true false 6) m2 r3 ((vs3 zs).set 1 (some d1)) σ1 = some (.ret (.bool true), vars2, σ2)
end Ev
end
section
set_option maxRecDepth 100000
set_option autoImplicit false
set_option linter.all false
set_option maxHeartbeats 4000000
namespace Ev
open PySem
noncomputable def norm3 (s : Int × Int) : Int := s.1 * s.1 - s.1 * s.2 + s.2 * s.2
noncomputable def turn3 (s : Int × Int) : Int × Int := (s.1 - s.2, s.1)
noncomputable def cross3 (s t : Int × Int) : Int := s.1 * t.2 - s.2 * t.1
noncomputable def mn2 (a b : Int) : Int := if b < a then b else a
noncomputable def mx2 (a b : Int) : Int := if a < b then b else a
noncomputable def low3 (s : Int × Int) : Int := mn2 (mn2 s.1 s.2) 0
noncomputable def ring3 (s : Int × Int) : Int := mx2 (mx2 s.1 s.2) 0 - low3 s
noncomputable def place3 (s : Int × Int) : Int :=
  if low3 s = 0 then (if s.1 ≥ s.2 then s.2 else 2 * ring3 s - s.1)
  else if s.1 = low3 s then (if s.2 ≥ 0 then 2 * ring3 s - low3 s else 4 * ring3 s - (s.2 - low3 s))
  else (if 0 ≥ s.1 then 4 * ring3 s + (s.1 - low3 s) else 6 * ring3 s + low3 s)
noncomputable def nm3 (s : Int × Int) : D := .tup [.int (-norm3 s), .int (ring3 s), .int (place3 s)]
noncomputable def sp3 (s : Int × Int) : D := .lst [.int s.1, .int s.2]
noncomputable def side3 : List Int := intsFrom (-4) 9
noncomputable def spots3 : List (Int × Int) := (side3.flatMap fun a => side3.map fun b => (a, b)).filter fun s => decide (0 < norm3 s ∧ norm3 s ≤ 16)
noncomputable abbrev c64 : UInt64 := 4634204016564240384
theorem pick_int {b x : Int} {xs : List D} : pickBest (cmpD .Lt) (.int b) (.int x :: xs) = pickBest (cmpD .Lt) (.int (mn2 b x)) xs := by
  show (match some (decide (x < b)) with | some true => pickBest (cmpD .Lt) (.int x) xs | some false => pickBest (cmpD .Lt) (.int b) xs | none => none) = _
  unfold mn2
  by_cases h : x < b
  · rw [decide_eq_true h, if_pos h]
  · rw [decide_eq_false h, if_neg h]
theorem min_ints3 (a b c : Int) : biD .min [.int a, .int b, .int c] = some (.int (mn2 (mn2 a b) c)) := pick_int.trans pick_int
/-- rgb_to_hsv of a colour that is not grey -/
noncomputable def rgbC (r g b : UInt64) : Option (UInt64 × UInt64 × UInt64) :=
  (fMin r g b).bind fun mn => (fEq mn (fMax r g b)).bind fun t => if (t || (Float64.isZero (fMax r g b) || Float64.isZero (Float64.sub (fMax r g b) mn))) = true then none else
    (fEq r (fMax r g b)).bind fun br => (fEq g (fMax r g b)).bind fun bg => some (hue1 (hue0 r g b (fMax r g b) mn br bg), Float64.div (Float64.sub (fMax r g b) mn) (fMax r g b), fMax r g b)
theorem or2 {a b : Bool} (h : (a || b) = false) : a = false ∧ b = false := by
  cases a with
  | true => exact falseE h.symm
  | false => exact ⟨rfl, h⟩
theorem rgb_of {Δ : Dl} (hot : Δ.hot = true) {r g b : UInt64} {c : UInt64 × UInt64 × UInt64} (e : rgbC r g b = some c) : runP Δ 200 frgbtohsv [.flt r, .flt g, .flt b] = some (.tup [.flt c.1, .flt c.2.1, .flt c.2.2]) :=
  bindE e fun mn e1 e => bindE e fun t e2 e => by
    obtain ⟨hz, e⟩ := iteF e
    obtain ⟨h1, hz⟩ := or2 (Bool.eq_false_iff.mpr hz)
    obtain ⟨h2, h3⟩ := or2 hz
    exact bindE e fun br e3 e => bindE e fun bg e4 e => by
      rw [← Option.some.inj e]
      exact rgb_col hot (max_flts r g b) (min_flts e1) (e2.trans (congrArg some h1)) h2 h3 e3 e4
noncomputable def q64 (x : Int) : UInt64 := Float64.div (Float64.ofInt x) c64
theorem div64 {x : Int} (h : bitsOk x = true) : binD .Div (.int x) (.flt c64) = some (.flt (q64 x)) := if_neg (by rw [h, show Float64.isZero c64 = false by decide +kernel]; decide)
theorem mul_if {x : Int} {q : UInt64} (h : bitsOk x = true) : binD .Mult (.int x) (.flt q) = some (.flt (Float64.mul (Float64.ofInt x) q)) := if_neg (by rw [h]; decide)
theorem bits64 : bitsOk 64 = true := by decide +kernel
/-- the name, reckoned -/
noncomputable def nameC (x y z : Int) : Option (Int × Int) :=
  if (bitsOk x && (bitsOk y && bitsOk z)) = true then (rgbC (q64 x) (q64 y) (q64 z)).bind fun c => (roundD (Float64.mul (Float64.mul (Float64.ofInt 64) c.2.1) c.2.2)).bind fun r =>
    if bitsOk (6 * r) = true then (roundD (Float64.mul (Float64.ofInt (6 * r)) c.1)).map fun p => (r, p) else none
  else none
theorem name_ok {Δ Δ' : Dl} (hot : Δ.hot = true) (hot' : Δ'.hot = true) (h0 : ∀ ds, Δ.fns 0 ds = runP Δ' 200 frgbtohsv ds) {s : Int × Int} {g r p u w : Int}
    (e : nameC (g - low3 s + s.1) (g - low3 s + s.2) (g - low3 s) = some (r, p)) (e8 : binII .Mod p r = some (.int u)) (e9 : binII .Mult u (r - u) = some (.int w)) (e10 : binII .Mult r r = some (.int (r * r))) :
    runP Δ 200 flawname [sp3 s, .int g] = some (.tup [.int (w - r * r), .int r, .int p]) := by
  obtain ⟨hb, e⟩ := iteT e
  obtain ⟨b1, hb⟩ := and2 hb
  obtain ⟨b2, b3⟩ := and2 hb
  refine bindE e fun c c4 e => bindE e fun r' e4 e => ?_
  obtain ⟨b6, e⟩ := iteT e
  refine mapE e fun p' e7 e => ?_
  obtain ⟨rfl, rfl⟩ := Prod.mk.inj e
  exact Rets.run (Rets.asg (x := .int (g - low3 s)) (evE_ii (a := .var 1) rfl (evE_bi_of (ds := [.int s.1, .int s.2, .int 0]) rfl rfl (min_ints3 s.1 s.2 0) rfl rfl) rfl) rfl
    (Rets.asgs (x := .tup [.flt c.1, .flt c.2.1, .flt c.2.2]) (evE_call (ds := [.flt (q64 (g - low3 s + s.1)), .flt (q64 (g - low3 s + s.2)), .flt (q64 (g - low3 s))]) (evEs_cons (evE_bd (x := .int (g - low3 s + s.1)) (y := .flt c64) hot rfl (evE_lit hot) rfl rfl rfl (div64 b1)) (evEs_cons (evE_bd (x := .int (g - low3 s + s.2)) (y := .flt c64) hot rfl (evE_lit hot) rfl rfl rfl (div64 b2)) (evEs_cons (evE_bd (a := .var 2) (y := .flt c64) hot rfl (evE_lit hot) rfl rfl rfl (div64 b3)) rfl))) rfl ((h0 _).trans (rgb_of hot' c4))) rfl
    (Rets.asg (x := .int r') (evE_bi_of (ds := [.flt (Float64.mul (Float64.mul (Float64.ofInt 64) c.2.1) c.2.2)]) (evEs_cons (evE_bd (b := .var 5) hot (evE_bd (a := .lit (.int 64)) (b := .var 4) hot rfl rfl rfl rfl rfl (mul_if bits64)) rfl rfl rfl rfl rfl) rfl) rfl (by show (roundD _).map _ = _; rw [e4]; rfl) rfl rfl) rfl
    (Rets.asg (x := .int p') (evE_bi_of (ds := [.flt (Float64.mul (Float64.ofInt (6 * r')) c.1)]) (evEs_cons (evE_bd (b := .var 3) hot (evE_ii (a := .lit (.int 6)) (b := .var 6) rfl rfl rfl) rfl rfl rfl rfl (mul_if b6)) rfl) rfl (by show (roundD _).map _ = _; rw [e7]; rfl) rfl rfl) rfl
    (Rets.asg (evE_ii (a := .var 7) (b := .var 6) rfl rfl e8) rfl
    (Rets.ret (x := .tup [.int (w - r' * r'), .int r', .int p']) ((seq1_of (k := tupK) (evEs_cons (evE_ii (evE_ii (a := .var 8) rfl (evE_ii (a := .var 6) (b := .var 8) rfl rfl rfl) e9) (evE_ii (a := .var 6) (b := .var 6) rfl rfl e10) rfl) rfl)).trans rfl) rfl)))))) rfl rfl rfl
noncomputable def isNm (s : Int × Int) : Option (Int × Int) → Bool
  | some (r, p) => r == ring3 s && p == place3 s
  | none => false
theorem isNm_of {s : Int × Int} : ∀ {o : Option (Int × Int)}, isNm s o = true → o = some (ring3 s, place3 s)
  | none, h => falseE h
  | some (r, p), h => by rw [eq_of_beq (and2 h).1, eq_of_beq (and2 h).2]
/-- ring and place are small, and tell the norm -/
noncomputable def nmI (s : Int × Int) : Bool := decide (ring3 s ≠ 0) && (small (ring3 s) && (small ((place3 s).fmod (ring3 s)) && decide ((place3 s).fmod (ring3 s) * (ring3 s - (place3 s).fmod (ring3 s)) - ring3 s * ring3 s = -norm3 s)))
noncomputable def nmG (g : Int) (s : Int × Int) : Bool := isNm s (nameC (g - low3 s + s.1) (g - low3 s + s.2) (g - low3 s))
theorem names_i : (spots3.all nmI) = true := by decide +kernel
theorem names_0 : (spots3.all (nmG 0)) = true := by decide +kernel
theorem names_1 : (spots3.all (nmG 1)) = true := by decide +kernel
theorem names_2 : (spots3.all (nmG 2)) = true := by decide +kernel
theorem names_3 : (spots3.all (nmG 3)) = true := by decide +kernel
theorem names_g {g : Int} (hg : 0 ≤ g ∧ g < 4) : (spots3.all (nmG g)) = true := by
  obtain ⟨k, rfl⟩ : ∃ k : Nat, g = k := ⟨g.toNat, (Int.toNat_of_nonneg hg.1).symm⟩
  match k, hg with
  | 0, _ => exact names_0
  | 1, _ => exact names_1
  | 2, _ => exact names_2
  | 3, _ => exact names_3
  | k + 4, h => exact absurd h.2 (by omega)
theorem mul_ok {a b : Int} (h : small a = true) : binII .Mult a b = some (.int (a * b)) := if_pos (by rw [h]; rfl)
theorem mod_ok {a b : Int} (h : b ≠ 0) : binII .Mod a b = some (.int (a.fmod b)) := if_neg (by rw [beq_eq_false_iff_ne.mpr h]; decide)
theorem nm_ok {Δ Δ' : Dl} (hot : Δ.hot = true) (hot' : Δ'.hot = true) (h0 : ∀ ds, Δ.fns 0 ds = runP Δ' 200 frgbtohsv ds) {s : Int × Int} {g : Int} (hs : s ∈ spots3) (hg : 0 ≤ g ∧ g < 4) : runP Δ 200 flawname [sp3 s, .int g] = some (nm3 s) := by
  obtain ⟨k1, k2⟩ := and2 (List.all_eq_true.mp names_i s hs)
  obtain ⟨k2, k3⟩ := and2 k2
  obtain ⟨k3, k4⟩ := and2 k3
  refine (name_ok hot hot' h0 (isNm_of (List.all_eq_true.mp (names_g hg) s hs)) (mod_ok (of_decide_eq_true k1)) (mul_ok k3) (mul_ok k2)).trans ?_
  rw [of_decide_eq_true k4]; rfl
end Ev
end
section
set_option maxRecDepth 100000
set_option autoImplicit false
set_option linter.all false
set_option maxHeartbeats 4000000
namespace Ev
open PySem
noncomputable def corners3 : List (Int × Int) := [(1, 0), (1, 1), (0, 1), (-1, 0), (-1, -1), (0, -1)]
noncomputable def tp3 (c : Int × Int) : D := .tup [.int c.1, .int c.2]
noncomputable def corner3 (k : Int) : Int × Int := corners3[k.toNat]?.getD (0, 0)
noncomputable def back3 (r p : Int) : Int × Int :=
  ((r - p.fmod r) * (corner3 ((p.fdiv r).fmod 6)).1 + p.fmod r * (corner3 ((p.fdiv r + 1).fmod 6)).1, (r - p.fmod r) * (corner3 ((p.fdiv r).fmod 6)).2 + p.fmod r * (corner3 ((p.fdiv r + 1).fmod 6)).2)
theorem corner_at {k : Int} (h : 0 ≤ k ∧ k < 6) : (corners3.map tp3)[k.toNat]? = some (tp3 (corner3 k)) := by
  have hl : k.toNat < corners3.length := by show k.toNat < 6; omega
  have e : corners3[k.toNat]? = some (corner3 k) := by unfold corner3; rw [List.getElem?_eq_getElem hl]; rfl
  rw [List.getElem?_map, e]; rfl
theorem fmod_range (a : Int) : 0 ≤ a.fmod 6 ∧ a.fmod 6 < 6 := ⟨Int.fmod_nonneg_of_pos _ (by decide), Int.fmod_lt_of_pos _ (by decide)⟩
theorem small_of {i : Int} (h : -1000000 ≤ i ∧ i ≤ 1000000) : small i = true := by unfold small; exact decide_eq_true (by omega)
theorem small_fmod (a : Int) : small (a.fmod 6) = true := small_of (by have := fmod_range a; omega)
noncomputable abbrev bv (a b : Int × Int) (r q : Int) (x : Option D) : Vars := [none, x, some (tp3 a), some (.int r), some (tp3 b), some (.int q)]
theorem back_el {Δ : Dl} {n : Nat} {a b : Int × Int} {r q i u v : Int} (h0 : 0 ≤ i) (hs : small i = true) (h1 : [D.int a.1, .int a.2][i.toNat]? = some (.int u)) (h2 : [D.int b.1, .int b.2][i.toNat]? = some (.int v)) (s1 : small (r - q) = true) (s2 : small q = true) :
    evE Δ (n + 1 + 1 + 1 + 1) (.bin .Add (.bin .Mult (.bin .Sub (.var 3) (.var 5)) (.idx (.var 2) (.var 1))) (.bin .Mult (.var 5) (.idx (.var 4) (.var 1)))) (bv a b r q (some (.int i))) [] = some (.int ((r - q) * u + q * v), []) :=
  evE_ii (evE_ii (evE_ii (a := .var 3) (b := .var 5) rfl rfl rfl) (evE_idx (a := .var 2) (b := .var 1) rfl rfl rfl rfl h0 hs h1) (mul_ok s1)) (evE_ii (a := .var 5) rfl (evE_idx (a := .var 4) (b := .var 1) rfl rfl rfl rfl h0 hs h2) (mul_ok s2)) rfl
theorem divmod_ok {a b : Int} (h : b ≠ 0) (hs : small b = true) : biD .divmod [.int a, .int b] = some (.tup [.int (a.fdiv b), .int (a.fmod b)]) := if_neg (by rw [hs, beq_eq_false_iff_ne.mpr h]; decide)
theorem back_ok {Δ : Dl} {r p : Int} (hr : 1 ≤ r ∧ r ≤ 1000000) : runP Δ 200 flawback [.int r, .int p] = some (sp3 (back3 r p)) := by
  have e0 : r ≠ 0 := by omega
  have q1 := Int.fmod_nonneg_of_pos p (show 0 < r by omega)
  have q2 := Int.fmod_lt_of_pos p (show 0 < r by omega)
  have e2 : small (p.fmod r) = true := small_of (by omega)
  have e3 : small (r - p.fmod r) = true := small_of (by omega)
  refine Rets.run (Rets.asg (x := .lst (corners3.map tp3)) rfl rfl (Rets.asgs (evE_bi_of (ds := [.int p, .int r]) rfl rfl (divmod_ok e0 (small_of (by omega))) rfl rfl) rfl
    (Rets.asg (evE_idx (a := .var 2) (xs := corners3.map tp3) rfl (evE_ii (a := .var 3) (b := .lit (.int 6)) rfl rfl (mod_ok (by decide))) rfl rfl (fmod_range _).1 (small_fmod _) (corner_at (fmod_range _))) rfl
    (Rets.asg (evE_idx (a := .var 2) (xs := corners3.map tp3) rfl (evE_ii (evE_ii (a := .var 3) (b := .lit (.int 1)) rfl rfl rfl) (b := .lit (.int 6)) rfl (mod_ok (by decide))) rfl rfl (fmod_range _).1 (small_fmod _) (corner_at (fmod_range _))) rfl
    (Rets.ret (x := sp3 (back3 r p)) (evE_compM (l := [(0 : Int), 1]) D.int (fun i => .int (if i = 0 then (back3 r p).1 else (back3 r p).2)) (fun vs => ∃ x, vs = bv (corner3 ((p.fdiv r).fmod 6)) (corner3 ((p.fdiv r + 1).fmod 6)) r (p.fmod r) x) rfl rfl (by decide : 2 ≤ maxLen) ?_ ⟨none, rfl⟩) rfl))))) rfl rfl rfl
  rintro i hi vs ⟨x, rfl⟩
  refine ⟨bv (corner3 ((p.fdiv r).fmod 6)) (corner3 ((p.fdiv r + 1).fmod 6)) r (p.fmod r) (some (.int i)), rfl, ⟨_, rfl⟩, ?_⟩
  rcases List.mem_cons.mp hi with rfl | hi
  · exact back_el (by decide) rfl rfl rfl e3 e2
  · rcases List.mem_singleton.mp hi with rfl
    exact back_el (by decide) rfl rfl rfl e3 e2
end Ev
end
section
set_option maxRecDepth 100000
set_option autoImplicit false
set_option linter.all false
set_option maxHeartbeats 4000000
namespace Ev
open PySem
noncomputable def turnN : Nat → Int × Int → Int × Int
  | 0, s => s
  | k + 1, s => turnN k (turn3 s)
noncomputable def sixths3 (s t : Int × Int) : Int := (2 * (place3 s * ring3 t - place3 t * ring3 s) + ring3 s * ring3 t).fdiv (2 * ring3 s * ring3 t)
noncomputable def near3 (s t : Int × Int) : Int × Int := back3 (ring3 t) (place3 t + sixths3 s t * ring3 t)
noncomputable def rest3 (s t : Int × Int) : Int × Int := (s.1 - (near3 s t).1, s.2 - (near3 s t).2)
structure Spot (s : Int × Int) : Prop where
  x : -4 ≤ s.1 ∧ s.1 < 5
  y : -4 ≤ s.2 ∧ s.2 < 5
  n : 0 < norm3 s ∧ norm3 s ≤ 16
noncomputable def isSpot (s : Int × Int) : Bool := decide (-4 ≤ s.1 ∧ s.1 < 5) && (decide (-4 ≤ s.2 ∧ s.2 < 5) && decide (0 < norm3 s ∧ norm3 s ≤ 16))
theorem isSpot_of {s : Int × Int} (h : isSpot s = true) : Spot s := ⟨of_decide_eq_true (and2 h).1, of_decide_eq_true (and2 (and2 h).2).1, of_decide_eq_true (and2 (and2 h).2).2⟩
theorem Spot.mem {s : Int × Int} (h : Spot s) : s ∈ spots3 :=
  List.mem_filter.mpr ⟨List.mem_flatMap.mpr ⟨s.1, mem_intsFrom.mpr h.x, List.mem_map.mpr ⟨s.2, mem_intsFrom.mpr h.y, rfl⟩⟩, decide_eq_true h.n⟩
noncomputable def eq2 (s t : Int × Int) : Bool := s.1 == t.1 && s.2 == t.2
theorem eq2_of {s t : Int × Int} (h : eq2 s t = true) : s = t := Prod.ext (eq_of_beq (and2 h).1) (eq_of_beq (and2 h).2)
noncomputable def geoOk (s : Int × Int) : Bool := isSpot s && (eq2 (back3 (ring3 s) (place3 s)) s && (decide (1 ≤ ring3 s ∧ ring3 s ≤ 4) && decide (0 ≤ place3 s ∧ place3 s ≤ 24)))
theorem geo3 : (spots3.all fun s => geoOk s) = true := by decide +kernel
structure Geo (s : Int × Int) : Prop where
  spot : Spot s
  back : back3 (ring3 s) (place3 s) = s
  ring : 1 ≤ ring3 s ∧ ring3 s ≤ 4
  place : 0 ≤ place3 s ∧ place3 s ≤ 24
theorem geo_ok {s : Int × Int} (hs : s ∈ spots3) : Geo s := by
  obtain ⟨h1, h2⟩ := and2 (List.all_eq_true.mp geo3 s hs)
  obtain ⟨h2, h3⟩ := and2 h2
  exact ⟨isSpot_of h1, eq2_of h2, of_decide_eq_true (and2 h3).1, of_decide_eq_true (and2 h3).2⟩
noncomputable def pairOk (s t : Int × Int) : Bool := decide (norm3 s < norm3 t) || (((List.range 6).any fun k => eq2 (near3 s t) (turnN k t)) && (eq2 (rest3 s t) (0, 0) || (isSpot (rest3 s t) && decide (norm3 (rest3 s t) < norm3 s))))
theorem pairs3 : (spots3.all fun s => spots3.all fun t => pairOk s t) = true := by decide +kernel
theorem orT {a b : Bool} {P : Prop} (h : (a || b) = true) (h1 : a = true → P) (h2 : b = true → P) : P := (Bool.or_eq_true_iff.mp h).elim h1 h2
theorem pair_ok {s t : Int × Int} (hs : s ∈ spots3) (ht : t ∈ spots3) (h : norm3 t ≤ norm3 s) : (∃ k, near3 s t = turnN k t) ∧ (rest3 s t = (0, 0) ∨ (rest3 s t ∈ spots3 ∧ norm3 (rest3 s t) < norm3 s)) :=
  orT (List.all_eq_true.mp (List.all_eq_true.mp pairs3 s hs) t ht) (fun q => absurd (of_decide_eq_true q) (Int.not_lt.mpr h)) fun q => by
    obtain ⟨k, _, h1⟩ := List.any_eq_true.mp (and2 q).1
    exact ⟨⟨k, eq2_of h1⟩, orT (and2 q).2 (fun q => .inl (eq2_of q)) fun q => .inr ⟨(isSpot_of (and2 q).1).mem, of_decide_eq_true (and2 q).2⟩⟩
/-- a code's spot -/
noncomputable def spotOf (c : Int) : Int × Int := turnN (((c.fdiv 20).fmod 6).toNat) (1 + c.fmod 4, (c.fdiv 4).fmod 5)
noncomputable def isInt (i : Int) (d : D) : Bool := match intD d with
  | some j => j == i
  | none => false
theorem isInt_of {i : Int} {d : D} (h : isInt i d = true) : d = .int i := by
  cases d <;> first | exact falseE h | exact congrArg D.int (eq_of_beq h)
noncomputable def isInts : List Int → List D → Bool
  | [], ds => ds.isEmpty
  | i :: is, ds => match ds with
    | d :: ds => isInt i d && isInts is ds
    | [] => false
theorem isInts_of : ∀ {is : List Int} {ds : List D}, isInts is ds = true → ds = is.map .int
  | [], ds, h => List.isEmpty_iff.mp h
  | i :: is, [], h => falseE h
  | i :: is, d :: ds, h => by rw [isInt_of (and2 h).1, isInts_of (and2 h).2]; rfl
noncomputable def isSp (s : Int × Int) (o : Option D) : Bool := match o.bind lstD with
  | some ds => isInts [s.1, s.2] ds
  | none => false
theorem isSp_of {s : Int × Int} {o : Option D} (h : isSp s o = true) : o = some (sp3 s) := by
  cases o with
  | none => exact falseE h
  | some d => cases d <;> first | exact falseE h | exact congrArg (fun l => some (D.lst l)) (isInts_of (is := [s.1, s.2]) h)
theorem codes3 (j : Nat) : ((intsFrom 0 120).all fun c => isSp (spotOf c) (runP (lev T3 true false (j + 2)) 200 flawspot [.int c]) && isSpot (spotOf c)) = true := by kernel_rfl
theorem code_ok (j : Nat) (c : Int) : spotOf (c.fmod 120) ∈ spots3 ∧ runP (lev T3 true false (j + 2)) 200 flawspot [.int (c.fmod 120)] = some (sp3 (spotOf (c.fmod 120))) := by
  have h := and2 (List.all_eq_true.mp (codes3 j) _ (mem_intsFrom.mpr ⟨Int.fmod_nonneg_of_pos c (by decide), Int.fmod_lt_of_pos c (by decide)⟩))
  exact ⟨(isSpot_of h.2).mem, isSp_of h.1⟩
end Ev
end
section
set_option maxRecDepth 100000
set_option autoImplicit false
set_option linter.all false
set_option maxHeartbeats 4000000
namespace Ev
open PySem
/-! what stays as the spots are taken from each other -/
noncomputable def sub3 (a b : Int × Int) : Int × Int := (a.1 - b.1, a.2 - b.2)
structure Idl (C : Int × Int → Prop) : Prop where
  sub : ∀ a b, C a → C b → C (sub3 a b)
  turn : ∀ a, C a → C (turn3 a)
noncomputable def All (C : Int × Int → Prop) : List (Int × Int) → Prop
  | [] => True
  | s :: r => C s ∧ All C r
noncomputable def SameI (h h' : List (Int × Int)) : Prop := ∀ C, Idl C → (All C h ↔ All C h')
theorem SameI.trans {h h' h2 : List (Int × Int)} (a : SameI h h') (b : SameI h' h2) : SameI h h2 := fun C i => (a C i).trans (b C i)
theorem All.at {C : Int × Int → Prop} : ∀ {h : List (Int × Int)}, All C h → ∀ s ∈ h, C s
  | [], _, s, m => absurd m List.not_mem_nil
  | x :: r, k, s, m => (List.mem_cons.mp m).elim (fun e => e ▸ k.1) (All.at k.2 s)
theorem All.of {C : Int × Int → Prop} : ∀ {h : List (Int × Int)}, (∀ s ∈ h, C s) → All C h
  | [], _ => trivial
  | s :: r, k => ⟨k s List.mem_cons_self, All.of fun x m => k x (List.mem_cons_of_mem _ m)⟩
theorem Idl.turnN {C : Int × Int → Prop} (i : Idl C) : ∀ (k : Nat) {a : Int × Int}, C a → C (turnN k a)
  | 0, _, h => h
  | k + 1, a, h => i.turnN k (i.turn a h)
theorem back_sum (a b : Int × Int) : sub3 (sub3 a b) (turn3 (turn3 (turn3 b))) = a := by
  have h (x u v : Int) : x - u - (u - v - u - (u - v)) = x := by omega
  have h2 (y u v : Int) : y - v - (u - v - u) = y := by omega
  exact Prod.ext (h a.1 b.1 b.2) (h2 a.2 b.1 b.2)
theorem Idl.add {C : Int × Int → Prop} (i : Idl C) {a b : Int × Int} (ha : C (sub3 a b)) (hb : C b) : C a := back_sum a b ▸ i.sub _ _ ha (i.turn _ (i.turn _ (i.turn _ hb)))
theorem Idl.rest {C : Int × Int → Prop} (i : Idl C) {a b : Int × Int} (hs : a ∈ spots3) (ht : b ∈ spots3) (h : norm3 b ≤ norm3 a) (cb : C b) : C (rest3 a b) ↔ C a := by
  obtain ⟨⟨k, hk⟩, _⟩ := pair_ok hs ht h
  have hn : C (near3 a b) := hk ▸ i.turnN k cb
  exact ⟨fun q => i.add (b := near3 a b) q hn, fun q => i.sub _ _ q hn⟩
theorem Idl.zero {C : Int × Int → Prop} (i : Idl C) {b : Int × Int} (cb : C b) : C (0, 0) := by
  have h := i.sub _ _ cb cb
  have e : sub3 b b = (0, 0) := Prod.ext (Int.sub_self _) (Int.sub_self _)
  rwa [e] at h
theorem ltD_nm (s t : Int × Int) : ∃ b, ltD (nm3 s) (nm3 t) = some b ∧ (b = true → norm3 t ≤ norm3 s) ∧ (b = false → norm3 s ≤ norm3 t) := by
  cases hb : (-norm3 s == -norm3 t) with
  | true =>
    have h : norm3 s = norm3 t := Int.neg_inj.mp (eq_of_beq hb)
    have e : ltD (nm3 s) (nm3 t) = ltDs [.int (ring3 s), .int (place3 s)] [.int (ring3 t), .int (place3 t)] := by
      show (if (-norm3 s == -norm3 t) = true then _ else _) = _
      rw [hb]; rfl
    have e2 : ltDs [.int (ring3 s), .int (place3 s)] [.int (ring3 t), .int (place3 t)] = if (ring3 s == ring3 t) = true then (if (place3 s == place3 t) = true then some false else some (decide (place3 s < place3 t))) else some (decide (ring3 s < ring3 t)) := rfl
    rw [e, e2]
    split
    · split
      · exact ⟨_, rfl, fun _ => Int.le_of_eq h.symm, fun _ => Int.le_of_eq h⟩
      · exact ⟨_, rfl, fun _ => Int.le_of_eq h.symm, fun _ => Int.le_of_eq h⟩
    · exact ⟨_, rfl, fun _ => Int.le_of_eq h.symm, fun _ => Int.le_of_eq h⟩
  | false =>
    refine ⟨decide (-norm3 s < -norm3 t), ?_, fun q => Int.le_of_lt (Int.neg_lt_neg_iff.mp (of_decide_eq_true q)), fun q => Int.neg_le_neg_iff.mp (Int.not_lt.mp (of_decide_eq_false q))⟩
    show (if (-norm3 s == -norm3 t) = true then _ else some (decide (-norm3 s < -norm3 t))) = _
    rw [hb]; rfl
/-- the spots in the heap: the greatest ahead -/
noncomputable def TopH : List (Int × Int) → Prop
  | [] => True
  | a :: r => All (fun s => norm3 s ≤ norm3 a) r
structure HP (h : List (Int × Int)) : Prop where
  mem : All (· ∈ spots3) h
  top : TopH h
noncomputable def msum : List (Int × Int) → Nat
  | [] => 0
  | s :: r => (norm3 s).toNat + msum r
theorem nms_pure (h : List (Int × Int)) : D.pures (h.map nm3) = true := pures_map nm3 (fun _ => rfl) h
theorem nm_dep (s : Int × Int) : (nm3 s).dep ≤ 50 := (by decide : 1 ≤ 50)
end Ev
end
section
set_option maxRecDepth 100000
set_option autoImplicit false
set_option linter.all false
set_option maxHeartbeats 4000000
namespace Ev
open PySem
noncomputable def cBody : List S := [.asg [(.tup [4, 5, 6])] (.mcall 1 (.var 2) []), .asg [(.tup [7, 8, 9])] (.idx (.var 2) (.lit (.int 0))), .asg [(.var 10)] (.bin .FloorDiv (.bin .Add (.bin .Mult (.lit (.int 2)) (.bin .Sub (.bin .Mult (.var 6) (.var 8)) (.bin .Mult (.var 9) (.var 5)))) (.bin .Mult (.var 5) (.var 8))) (.bin .Mult (.bin .Mult (.lit (.int 2)) (.var 5)) (.var 8))), .asg [(.var 11)] (.call 5 [(.var 5), (.var 6)]), .asg [(.var 12)] (.call 5 [(.var 8), (.bin .Add (.var 9) (.bin .Mult (.var 10) (.var 8)))]), .asg [(.var 13)] (.lst [(.bin .Sub (.idx (.var 11) (.lit (.int 0))) (.idx (.var 12) (.lit (.int 0)))), (.bin .Sub (.idx (.var 11) (.lit (.int 1))) (.idx (.var 12) (.lit (.int 1))))]), .ite (.cmp .NotEq (.var 13) (.lst [(.lit (.int 0)), (.lit (.int 0))])) [.expr (.mcall 0 (.var 2) [(.call 4 [(.var 13), (.var 1)])])] []]
/-- the vars of _law_common -/
noncomputable abbrev cv (v0 : Option D) (g : Int) (v3 x4 x5 x6 x7 x8 x9 x10 x11 x12 x13 : Option D) : Vars := [v0, some (.int g), some (.loc 0), v3, x4, x5, x6, x7, x8, x9, x10, x11, x12, x13, none, none, none, none, none]
inductive CV (v0 : Option D) (g : Int) : Vars → Prop
  | mk (v3 x4 x5 x6 x7 x8 x9 x10 x11 x12 x13 : Option D) : CV v0 g (cv v0 g v3 x4 x5 x6 x7 x8 x9 x10 x11 x12 x13)
theorem mul_ok2 {a b : Int} (h : small b = true) : binII .Mult a b = some (.int (a * b)) := if_pos (by rw [h, Bool.or_true])
theorem fdiv_ok {a b : Int} (h : b ≠ 0) (hs : small b = true) : binII .FloorDiv a b = some (.int (a.fdiv b)) := if_neg (by rw [hs, beq_eq_false_iff_ne.mpr h]; decide)
theorem spot_nz {s : Int × Int} (h : Spot s) : (s.1 == 0 && (s.2 == 0 && true)) = false := by
  refine Bool.eq_false_iff.mpr fun q => ?_
  have e1 : s.1 = 0 := eq_of_beq (and2 q).1
  have e2 : s.2 = 0 := eq_of_beq (and2 (and2 q).2).1
  have h2 := h.n.1
  unfold norm3 at h2
  rw [e1, e2] at h2
  exact absurd h2 (by decide)
/-- what the two rings are good for -/
theorem rings {a b : Int} (ha : 1 ≤ a ∧ a ≤ 4) (hb : 1 ≤ b ∧ b ≤ 4) : 2 * a * b ≠ 0 ∧ small (2 * a * b) = true := by
  have h1 : 0 < 2 * a * b := Int.mul_pos (by omega) (by omega)
  have h2 : 2 * a * b ≤ 8 * 4 := Int.mul_le_mul (by omega) hb.2 (by omega) (by omega)
  exact ⟨by omega, small_of (by omega)⟩
theorem small_r {a : Int} (ha : 1 ≤ a ∧ a ≤ 4) : small a = true := small_of (by omega)
theorem small_p {a : Int} (ha : 0 ≤ a ∧ a ≤ 24) : small a = true := small_of (by omega)
theorem ring_le {a : Int} (ha : 1 ≤ a ∧ a ≤ 4) : 1 ≤ a ∧ a ≤ 1000000 := by omega
theorem turn_ok {Δ : Dl} {a b : Int × Int} {xs zs ws : List D} {g : Int} {v0 : Option D} {v : Vars} (hv : CV v0 g v) (ha : a ∈ spots3) (hb : b ∈ spots3) (hab : norm3 b ≤ norm3 a) (px : D.pures xs = true) (pz : D.pures zs = true)
    (hback : ∀ r p, 1 ≤ r ∧ r ≤ 1000000 → Δ.fns 5 [.int r, .int p] = some (sp3 (back3 r p))) (hname : ∀ s, s ∈ spots3 → Δ.fns 4 [sp3 s, .int g] = some (nm3 s))
    (hpop : Δ.muts 1 xs [] = some (nm3 a, nm3 b :: zs)) (hw : rest3 a b = (0, 0) ∧ ws = nm3 b :: zs ∨ rest3 a b ∈ spots3 ∧ Δ.muts 0 (nm3 b :: zs) [nm3 (rest3 a b)] = some (.none, ws)) :
    ∃ v', CV v0 g v' ∧ exSs Δ 196 cBody v [some (.lst xs)] = some (.next, v', [some (.lst ws)]) := by
  obtain ⟨v3, x4, x5, x6, x7, x8, x9, x10, x11, x12, x13⟩ := hv
  have ga := geo_ok ha
  have gb := geo_ok hb
  have k4 := (hback _ (place3 a) (ring_le ga.ring)).trans (congrArg (fun s => some (sp3 s)) ga.back)
  have hr := rings ga.ring gb.ring
  refine ⟨_, .mk v3 (some (.int (-norm3 a))) (some (.int (ring3 a))) (some (.int (place3 a))) (some (.int (-norm3 b))) (some (.int (ring3 b))) (some (.int (place3 b))) (some (.int (sixths3 a b))) (some (sp3 a)) (some (sp3 (near3 a b))) (some (sp3 (rest3 a b))), ?_⟩
  refine (exSs_cons (exS_asgs (evE_mcall' (l := 0) (o := .var 2) (σ2 := [some (.lst xs)]) (ds := []) rfl rfl rfl rfl px hpop rfl) rfl)).trans ?_
  refine (exSs_cons (exS_asgs (d := nm3 b) rfl rfl)).trans ?_
  refine (exSs_cons (exS_asg1 (evE_ii (evE_ii (evE_ii (a := .lit (.int 2)) rfl (evE_ii (evE_ii (a := .var 6) (b := .var 8) rfl rfl (mul_ok (small_p ga.place))) (evE_ii (a := .var 9) (b := .var 5) rfl rfl (mul_ok (small_p gb.place))) rfl) (mul_ok rfl)) (evE_ii (a := .var 5) (b := .var 8) rfl rfl (mul_ok (small_r ga.ring))) rfl) (evE_ii (evE_ii (a := .lit (.int 2)) (b := .var 5) rfl rfl (mul_ok rfl)) (b := .var 8) rfl (mul_ok2 (small_r gb.ring))) (fdiv_ok hr.1 hr.2)) rfl)).trans ?_
  refine (exSs_cons (exS_asg1 (evE_call (ds := [.int (ring3 a), .int (place3 a)]) rfl rfl k4) rfl)).trans ?_
  refine (exSs_cons (exS_asg1 (evE_call (ds := [.int (ring3 b), .int (place3 b + sixths3 a b * ring3 b)]) (evEs_cons (a := .var 8) rfl (evEs_cons (evE_ii (a := .var 9) rfl (evE_ii (a := .var 10) (i := sixths3 a b) (b := .var 8) rfl rfl (mul_ok2 (small_r gb.ring))) rfl) rfl)) rfl (hback _ _ (ring_le gb.ring))) rfl)).trans ?_
  refine (exSs_cons (exS_asg1 (d := sp3 (rest3 a b)) rfl rfl)).trans ?_
  rcases hw with ⟨h0, rfl⟩ | ⟨hm, hp⟩
  · exact exSs_one (exS_ifF (tr_cmp (a := .var 13) (b := .lst [(.lit (.int 0)), (.lit (.int 0))]) (x := sp3 (rest3 a b)) rfl rfl rfl rfl (show cmpR .NotEq (sp3 (rest3 a b)) (.lst [.int 0, .int 0]) = some false by rw [h0]; rfl)) rfl)
  · exact exSs_one (exS_ifT (tr_cmp (a := .var 13) (b := .lst [(.lit (.int 0)), (.lit (.int 0))]) (x := sp3 (rest3 a b)) rfl rfl rfl rfl (show cmpR .NotEq (sp3 (rest3 a b)) (.lst [.int 0, .int 0]) = some (!false) from cmpR_ne (by decide : 1 ≤ 50) (congrArg some (spot_nz (geo_ok hm).spot))))
      (exSs_one (exS_expr (evE_mcall' (l := 0) (o := .var 2) (σ2 := [some (.lst (nm3 b :: zs))]) (ds := [nm3 (rest3 a b)]) rfl (evEs_cons (evE_call (ds := [sp3 (rest3 a b), .int g]) rfl rfl (hname _ hm)) rfl) rfl rfl pz hp rfl))))
end Ev
end
section
set_option maxRecDepth 100000
set_option autoImplicit false
set_option linter.all false
set_option maxHeartbeats 4000000
namespace Ev
open PySem
/-- the defs of the heap stand -/
noncomputable def HpDl (Δ : Dl) : Prop := ∃ Δ1 Δ2 Δ3 : Dl, (∀ xs ds, Δ.muts 0 xs ds = runM Δ1 200 fheappush xs ds) ∧ (∀ xs ds, Δ.muts 1 xs ds = runM Δ1 200 fheappop xs ds) ∧ (∀ xs ds, Δ1.muts 2 xs ds = runM Δ2 200 fsiftdown xs ds) ∧ (∀ xs ds, Δ1.muts 3 xs ds = runM Δ2 200 fsiftup xs ds) ∧ (∀ xs ds, Δ2.muts 2 xs ds = runM Δ3 200 fsiftdown xs ds)
structure ComDl (Δ : Dl) (g : Int) : Prop where
  hp : HpDl Δ
  back : ∀ r p, 1 ≤ r ∧ r ≤ 1000000 → Δ.fns 5 [.int r, .int p] = some (sp3 (back3 r p))
  name : ∀ s, s ∈ spots3 → Δ.fns 4 [sp3 s, .int g] = some (nm3 s)
/-- x is laid into the heap h -/
structure Pushed (x : Int × Int) (h ws : List (Int × Int)) : Prop where
  len : ws.length = h.length + 1
  hp : HP ws
  sum : msum ws = (norm3 x).toNat + msum h
  all : ∀ C, All C ws ↔ C x ∧ All C h
theorem add3 (a b c : Nat) : a + (b + c) = b + (a + c) := Nat.add_left_comm ..
theorem push_h {Δ : Dl} (hΔ : HpDl Δ) : ∀ {h : List (Int × Int)}, HP h → h.length ≤ 2 → ∀ {x}, x ∈ spots3 → ∃ ws, Pushed x h ws ∧ Δ.muts 0 (h.map nm3) [nm3 x] = some (.none, ws.map nm3)
  | [], hh, hl, x, hx => by
    obtain ⟨Δ1, Δ2, Δ3, p1, p2, p3, p4, p5⟩ := hΔ
    exact ⟨[x], ⟨rfl, ⟨⟨hx, trivial⟩, trivial⟩, rfl, fun C => Iff.rfl⟩, (p1 _ _).trans (push0 p3 rfl)⟩
  | [p], hh, hl, x, hx => by
    obtain ⟨Δ1, Δ2, Δ3, p1, p2, p3, p4, p5⟩ := hΔ
    obtain ⟨t, f1, f2, f3⟩ := ltD_nm x p
    have e := (p1 _ _).trans (push1 p3 f1 (nm_dep _) rfl rfl)
    cases t with
    | true => exact ⟨[x, p], ⟨rfl, ⟨⟨hx, hh.mem⟩, ⟨f2 rfl, trivial⟩⟩, rfl, fun C => Iff.rfl⟩, e⟩
    | false => exact ⟨[p, x], ⟨rfl, ⟨⟨hh.mem.1, hx, trivial⟩, ⟨f3 rfl, trivial⟩⟩, add3 (norm3 p).toNat (norm3 x).toNat 0, fun C => ⟨fun k => ⟨k.2.1, k.1, trivial⟩, fun k => ⟨k.2.1, k.1, trivial⟩⟩⟩, e⟩
  | [p, q], hh, hl, x, hx => by
    obtain ⟨Δ1, Δ2, Δ3, p1, p2, p3, p4, p5⟩ := hΔ
    obtain ⟨t, f1, f2, f3⟩ := ltD_nm x p
    have e := (p1 _ _).trans (push2 (a := nm3 p) (c := nm3 q) p3 f1 (nm_dep _) rfl rfl rfl)
    cases t with
    | true => exact ⟨[x, q, p], ⟨rfl, ⟨⟨hx, hh.mem.2.1, hh.mem.1, trivial⟩, ⟨Int.le_trans hh.top.1 (f2 rfl), f2 rfl, trivial⟩⟩, congrArg ((norm3 x).toNat + ·) (add3 (norm3 q).toNat (norm3 p).toNat 0), fun C => ⟨fun k => ⟨k.1, k.2.2.1, k.2.1, trivial⟩, fun k => ⟨k.1, k.2.2.1, k.2.1, trivial⟩⟩⟩, e⟩
    | false => exact ⟨[p, q, x], ⟨rfl, ⟨⟨hh.mem.1, hh.mem.2.1, hx, trivial⟩, ⟨hh.top.1, f3 rfl, trivial⟩⟩, by show (norm3 p).toNat + ((norm3 q).toNat + ((norm3 x).toNat + 0)) = (norm3 x).toNat + ((norm3 p).toNat + ((norm3 q).toNat + 0)); omega, fun C => ⟨fun k => ⟨k.2.2.1, k.1, k.2.1, trivial⟩, fun k => ⟨k.2.1, k.2.2.1, k.1, trivial⟩⟩⟩, e⟩
  | _ :: _ :: _ :: _, _, hl, _, _ => absurd hl (by simp)
/-- the front is taken out -/
structure Popped (a p : Int × Int) (qs r : List (Int × Int)) : Prop where
  hp : HP (p :: qs)
  le : norm3 p ≤ norm3 a
  len : (p :: qs).length = r.length
  sum : msum (p :: qs) = msum r
  all : ∀ C, All C (p :: qs) ↔ All C r
theorem pop_h {Δ : Dl} (hΔ : HpDl Δ) {a b : Int × Int} : ∀ {r : List (Int × Int)}, HP (a :: b :: r) → r.length ≤ 1 → ∃ p qs, Popped a p qs (b :: r) ∧ Δ.muts 1 ((a :: b :: r).map nm3) [] = some (nm3 a, (p :: qs).map nm3)
  | [], hh, hl => by
    obtain ⟨Δ1, Δ2, Δ3, p1, p2, p3, p4, p5⟩ := hΔ
    exact ⟨b, [], ⟨⟨hh.mem.2, trivial⟩, hh.top.1, rfl, rfl, fun C => Iff.rfl⟩, (p2 _ _).trans (pop2 p4 p5 rfl rfl)⟩
  | [c], hh, hl => by
    obtain ⟨Δ1, Δ2, Δ3, p1, p2, p3, p4, p5⟩ := hΔ
    obtain ⟨t, f1, f2, f3⟩ := ltD_nm c b
    have e := (p2 [nm3 a, nm3 b, nm3 c] []).trans (pop3 p4 p5 f1 (nm_dep _) rfl rfl rfl)
    cases t with
    | true => exact ⟨c, [b], ⟨⟨⟨hh.mem.2.2.1, hh.mem.2.1, trivial⟩, ⟨f2 rfl, trivial⟩⟩, hh.top.2.1, rfl, add3 (norm3 c).toNat (norm3 b).toNat 0, fun C => ⟨fun k => ⟨k.2.1, k.1, trivial⟩, fun k => ⟨k.2.1, k.1, trivial⟩⟩⟩, e⟩
    | false => exact ⟨b, [c], ⟨⟨hh.mem.2, ⟨f3 rfl, trivial⟩⟩, hh.top.1, rfl, rfl, fun C => Iff.rfl⟩, e⟩
  | _ :: _ :: _, _, hl => absurd hl (by simp)
theorem less2 {a b c : Nat} (h : 0 < a) (e : b = c) : b < a + c := by omega
theorem less3 {x a : Int} {b c : Nat} (h : x < a) (hx : 0 < x) (e : b = c) : x.toNat + b < a.toNat + c := by omega
theorem step_ok {Δ : Dl} {g : Int} {v0 : Option D} {v : Vars} {a b : Int × Int} {r : List (Int × Int)} (hΔ : ComDl Δ g) (hv : CV v0 g v) (h : HP (a :: b :: r)) (hl : r.length ≤ 1) :
    ∃ p h' v', (p :: h').length ≤ 3 ∧ HP (p :: h') ∧ msum (p :: h') < msum (a :: b :: r) ∧ SameI (a :: b :: r) (p :: h') ∧ CV v0 g v' ∧ exSs Δ 196 cBody v [some (.lst ((a :: b :: r).map nm3))] = some (.next, v', [some (.lst ((p :: h').map nm3))]) := by
  obtain ⟨p, qs, k, hpop⟩ := pop_h hΔ.hp h hl
  have ha := h.mem.1
  have hp := k.hp.mem.1
  have hI (C) (i : Idl C) : All C (a :: b :: r) ↔ C (rest3 a p) ∧ All C (p :: qs) := by
    show C a ∧ All C (b :: r) ↔ _
    rw [← k.all C]
    exact ⟨fun m => ⟨(i.rest ha hp k.le m.2.1).mpr m.1, m.2⟩, fun m => ⟨(i.rest ha hp k.le m.2.1).mp m.1, m.2⟩⟩
  have hlen : (p :: qs).length ≤ 2 := by rw [k.len]; exact Nat.succ_le_succ hl
  have na := (geo_ok ha).spot.n
  rcases (pair_ok ha hp k.le).2 with hr | ⟨hr, hr2⟩
  · obtain ⟨v', k1, k2⟩ := turn_ok hv ha hp k.le (nms_pure _) (nms_pure _) hΔ.back hΔ.name hpop (.inl ⟨hr, rfl⟩)
    refine ⟨p, qs, v', Nat.le_trans hlen (by decide), k.hp, less2 (by omega) k.sum, fun C i => (hI C i).trans ⟨fun m => m.2, fun m => ⟨hr ▸ i.zero m.1, m⟩⟩, k1, k2⟩
  · obtain ⟨ws, q, hpush⟩ := push_h hΔ.hp k.hp hlen hr
    obtain ⟨v', k1, k2⟩ := turn_ok hv ha hp k.le (nms_pure _) (nms_pure _) hΔ.back hΔ.name hpop (.inr ⟨hr, hpush⟩)
    cases ws with
    | nil => exact absurd q.len (by simp)
    | cons w ws =>
      exact ⟨w, ws, v', by rw [q.len]; exact Nat.succ_le_succ hlen, q.hp, by rw [q.sum, k.sum]; exact less3 hr2 (geo_ok hr).spot.n.1 rfl, fun C i => (hI C i).trans (q.all C).symm, k1, k2⟩
theorem cond_ok {Δ : Dl} {g : Int} {v0 : Option D} {v : Vars} {h : List (Int × Int)} (hv : CV v0 g v) (hl : h.length ≤ 3) : trE Δ 196 (.cmp .Gt (.bi .len [(.var 2)]) (.lit (.int 1))) v [some (.lst (h.map nm3))] = some (decide (((h.map nm3).length : Int) > 1), [some (.lst (h.map nm3))]) := by
  cases hv
  exact tr_cmp (evE_len1 (a := .var 2) rfl (res_loc rfl) (by rw [List.length_map]; exact Nat.le_trans hl (by decide))) (b := .lit (.int 1)) rfl rfl rfl rfl
theorem loop3 {Δ : Dl} {g : Int} {v0 : Option D} (hΔ : ComDl Δ g) : ∀ (n : Nat) (a : Int × Int) (h : List (Int × Int)) (v : Vars), msum (a :: h) < n → (a :: h).length ≤ 3 → HP (a :: h) → CV v0 g v → ∃ s v', s ∈ spots3 ∧ SameI (a :: h) [s] ∧ CV v0 g v' ∧
    whD (fun vars σ => trE Δ 196 (.cmp .Gt (.bi .len [(.var 2)]) (.lit (.int 1))) vars σ) (fun vars σ => exSs Δ 196 cBody vars σ) n v [some (.lst ((a :: h).map nm3))] = some (.next, v', [some (.lst [nm3 s])])
  | 0, _, _, _, hn, _, _, _ => absurd hn (Nat.not_lt_zero _)
  | n + 1, a, [], v, hn, h3, hh, hv => ⟨a, v, hh.mem.1, fun C i => Iff.rfl, hv, wh_stop (cond_ok (h := [a]) hv h3)⟩
  | n + 1, a, b :: r, v, hn, h3, hh, hv => by
    obtain ⟨p, h', v', k2, k3, k4, k5, k6, k7⟩ := step_ok hΔ hv hh (Nat.le_of_succ_le_succ (Nat.le_of_succ_le_succ h3))
    obtain ⟨s, v2, m1, m2, m3, m4⟩ := loop3 hΔ n p h' v' (Nat.lt_of_lt_of_le k4 (Nat.le_of_lt_succ hn)) k2 k3 k6
    have hc := cond_ok (Δ := Δ) hv h3
    rw [show decide ((((a :: b :: r).map nm3).length : Int) > 1) = true from decide_eq_true (by show (((r.map nm3).length + 1 + 1 : Nat) : Int) > 1; omega)] at hc
    exact ⟨s, v2, m1, k5.trans m2, m3, (wh_turn hc k7).trans m4⟩
end Ev
end
section
set_option maxRecDepth 100000
set_option autoImplicit false
set_option linter.all false
set_option maxHeartbeats 4000000
namespace Ev
open PySem
noncomputable def cF (Δ : Dl) : D → Vars → Sto → Option (Flw × Vars × Sto) := fun d vars σ => (asgT (.var 3) d vars).bind fun vars => exSs Δ 197 [.expr (.mcall 0 (.var 2) [(.var 3)])] vars σ
theorem fill_step {Δ : Dl} {g : Int} {v0 : Option D} {v : Vars} {x : Int × Int} {h ws : List (Int × Int)} (hp : Δ.muts 0 (h.map nm3) [nm3 x] = some (.none, ws.map nm3)) (hv : CV v0 g v) : ∃ v', CV v0 g v' ∧ cF Δ (nm3 x) v [some (.lst (h.map nm3))] = some (.next, v', [some (.lst (ws.map nm3))]) := by
  obtain ⟨v3, x4, x5, x6, x7, x8, x9, x10, x11, x12, x13⟩ := hv
  exact ⟨_, .mk (some (nm3 x)) x4 x5 x6 x7 x8 x9 x10 x11 x12 x13, exSs_one (n := 195) (exS_expr (evE_mcall' (l := 0) (o := .var 2) (σ2 := [some (.lst (h.map nm3))]) (ds := [nm3 x]) rfl rfl rfl rfl (nms_pure h) hp rfl))⟩
theorem fill_ok {Δ : Dl} {g : Int} {v0 : Option D} (hΔ : HpDl Δ) : ∀ (ss h : List (Int × Int)) (v : Vars), HP h → ss.length + h.length ≤ 3 → All (· ∈ spots3) ss → CV v0 g v →
    ∃ h' v', HP h' ∧ h'.length = ss.length + h.length ∧ (∀ C, All C h' ↔ All C ss ∧ All C h) ∧ CV v0 g v' ∧ forD (cF Δ) (ss.map nm3) v [some (.lst (h.map nm3))] = some (.next, v', [some (.lst (h'.map nm3))])
  | [], h, v, hh, _, _, hv => ⟨h, v, hh, (Nat.zero_add _).symm, fun C => ⟨fun k => ⟨trivial, k⟩, fun k => k.2⟩, hv, rfl⟩
  | x :: ss, h, v, hh, hl, hm, hv => by
    have hl2 : ss.length + (h.length + 1) ≤ 3 := by rw [← Nat.add_assoc, Nat.add_right_comm]; exact hl
    obtain ⟨ws, q, hp⟩ := push_h hΔ hh (Nat.le_of_succ_le_succ (Nat.le_trans (Nat.le_add_left _ _) hl2)) hm.1
    obtain ⟨v1, c1, e1⟩ := fill_step hp hv
    obtain ⟨h', v', k1, k2, k3, k4, k5⟩ := fill_ok hΔ ss ws v1 q.hp (by rw [q.len]; exact hl2) hm.2 c1
    exact ⟨h', v', k1, by rw [k2, q.len, ← Nat.add_assoc, Nat.add_right_comm]; rfl, fun C => (k3 C).trans ⟨fun k => ⟨⟨((q.all C).mp k.2).1, k.1⟩, ((q.all C).mp k.2).2⟩, fun k => ⟨k.1.2, (q.all C).mpr ⟨k.1.1, k.2⟩⟩⟩, k4, (for_turn e1).trans k5⟩
theorem msum_step {a : Int} {b c : Nat} (h : a ≤ 16) (k : b ≤ 16 * c) : a.toNat + b ≤ 16 * (c + 1) := by omega
theorem msum_le : ∀ {h : List (Int × Int)}, All (· ∈ spots3) h → msum h ≤ 16 * h.length
  | [], _ => Nat.le_refl 0
  | s :: r, k => msum_step (geo_ok k.1).spot.n.2 (msum_le k.2)
theorem common_ok {Δ : Dl} {g : Int} (hΔ : ComDl Δ g) {ss : List (Int × Int)} (h2 : ss ≠ []) (h3 : ss.length ≤ 3) (hm : All (· ∈ spots3) ss) : ∃ s, s ∈ spots3 ∧ SameI ss [s] ∧ runP Δ 200 flawcommon [.lst (ss.map nm3), .int g] = some (nm3 s) := by
  obtain ⟨h, v1, k1, k2, k3, k4, k5⟩ := fill_ok hΔ.hp ss [] (cv (some (.lst (ss.map nm3))) g none none none none none none none none none none none) ⟨trivial, trivial⟩ h3 hm (.mk ..)
  cases h with
  | nil => exact absurd (List.length_eq_zero_iff.mp k2.symm) h2
  | cons a h =>
    have hl : (a :: h).length ≤ 3 := by rw [k2]; exact h3
    obtain ⟨s, v2, m1, m2, m3, m4⟩ := loop3 hΔ whFuel a h v1 (Nat.lt_of_le_of_lt (Nat.le_trans (msum_le k1.mem) (Nat.mul_le_mul_left 16 hl)) (by decide)) hl k1 k4
    refine ⟨s, m1, fun C i => ((k3 C).trans ⟨fun k => k.1, fun k => ⟨k, trivial⟩⟩).symm.trans (m2 C i), ?_⟩
    refine Rets.run (Rets.step (σ' := [some (.lst [])]) (exS_asg1 (d := .loc 0) rfl rfl) (Rets.step ((exS_for (itE_lst (i := 0) rfl (Nat.le_trans h3 (by decide)))).trans k5) (Rets.step (exS_wh m4) ?_))) rfl (by show (D.pures (ss.map nm3) && (true && true)) = true; rw [nms_pure]; rfl) rfl
    cases m3
    exact Rets.ret (x := nm3 s) rfl rfl
end Ev
end
section
set_option maxRecDepth 100000
set_option autoImplicit false
set_option linter.all false
set_option maxHeartbeats 4000000
namespace Ev
open PySem
noncomputable def prs (done : List (Int × Int)) (c : Int × Int) : List Int := done.flatMap fun s => [cross3 s c, cross3 s (turn3 c)]
noncomputable def toldG : List (Int × Int) → List (Int × Int) → List Int
  | _, [] => []
  | done, c :: rest => (cross3 c (turn3 c) :: prs done c) ++ toldG (done ++ [c]) rest
noncomputable def told (ss : List (Int × Int)) : List Int := toldG [] ss
/-- what holds of each two holds of all the numbers -/
theorem toldG_all {P : Int → Prop} : ∀ {rest done : List (Int × Int)}, (∀ s ∈ done ++ rest, ∀ t ∈ done ++ rest, P (cross3 s t) ∧ P (cross3 s (turn3 t))) → ∀ r ∈ toldG done rest, P r
  | [], _, _, r, m => absurd m List.not_mem_nil
  | c :: rest, done, h, r, m => by
    have hc : c ∈ done ++ c :: rest := List.mem_append_right _ List.mem_cons_self
    rcases List.mem_append.mp m with m | m
    · rcases List.mem_cons.mp m with rfl | m
      · exact (h c hc c hc).2
      · obtain ⟨s, hs, m⟩ := List.mem_flatMap.mp m
        have k := h s (List.mem_append_left _ hs) c hc
        rcases List.mem_cons.mp m with rfl | m
        · exact k.1
        · rw [List.mem_singleton.mp m]; exact k.2
    · refine toldG_all (rest := rest) (done := done ++ [c]) ?_ r m
      rw [List.append_assoc]; exact h
/-- and back: each with itself, each with each ahead -/
theorem toldG_two {P : Int → Prop} {Q : Int × Int → Int × Int → Prop} (h1 : ∀ c, P (cross3 c (turn3 c)) → Q c c) (h2 : ∀ s c, P (cross3 s c) → P (cross3 s (turn3 c)) → Q s c ∧ Q c s) : ∀ {rest done : List (Int × Int)}, (∀ s ∈ done, ∀ t ∈ done, Q s t) → (∀ r ∈ toldG done rest, P r) → ∀ s ∈ done ++ rest, ∀ t ∈ done ++ rest, Q s t
  | [], done, k, _ => by rw [List.append_nil]; exact k
  | c :: rest, done, k, h => by
    have hc := h1 c (h _ (List.mem_append_left _ List.mem_cons_self))
    have hs : ∀ s ∈ done, Q s c ∧ Q c s := fun s hs => h2 s c (h _ (List.mem_append_left _ (List.mem_cons_of_mem _ (List.mem_flatMap.mpr ⟨s, hs, List.mem_cons_self⟩)))) (h _ (List.mem_append_left _ (List.mem_cons_of_mem _ (List.mem_flatMap.mpr ⟨s, hs, List.mem_cons_of_mem _ List.mem_cons_self⟩))))
    have ih := toldG_two h1 h2 (rest := rest) (done := done ++ [c]) (fun s m t m' => by
      rcases List.mem_append.mp m with m | m
      · rcases List.mem_append.mp m' with m' | m'
        · exact k s m t m'
        · rw [List.mem_singleton.mp m']; exact (hs s m).1
      · rw [List.mem_singleton.mp m]
        rcases List.mem_append.mp m' with m' | m'
        · exact (hs t m').2
        · rw [List.mem_singleton.mp m']; exact hc) (fun r m => h r (List.mem_append_right _ m))
    rw [List.append_assoc] at ih
    exact ih
/-- the multiples of L -/
noncomputable def Mul (L h : Int × Int) : Prop := ∃ x y : Int, h = (x * L.1 + y * (L.1 - L.2), x * L.2 + y * L.1)
theorem mul_idl (L : Int × Int) : Idl (Mul L) where
  sub a b := by
    rintro ⟨x, y, rfl⟩ ⟨u, v, rfl⟩
    exact ⟨x - u, y - v, Prod.ext (by show x * L.1 + y * (L.1 - L.2) - (u * L.1 + v * (L.1 - L.2)) = (x - u) * L.1 + (y - v) * (L.1 - L.2); rw [Int.sub_mul, Int.sub_mul]; omega) (by show x * L.2 + y * L.1 - (u * L.2 + v * L.1) = (x - u) * L.2 + (y - v) * L.1; rw [Int.sub_mul, Int.sub_mul]; omega)⟩
  turn a := by
    rintro ⟨x, y, rfl⟩
    exact ⟨-y, x + y, Prod.ext (by show x * L.1 + y * (L.1 - L.2) - (x * L.2 + y * L.1) = -y * L.1 + (x + y) * (L.1 - L.2); rw [Int.neg_mul, Int.mul_sub y, Int.mul_sub (x + y), Int.add_mul, Int.add_mul]; omega) (by show x * L.1 + y * (L.1 - L.2) = -y * L.2 + (x + y) * L.1; rw [Int.neg_mul, Int.add_mul, Int.mul_sub y]; omega)⟩
theorem mul_self (L : Int × Int) : Mul L L := ⟨1, 0, Prod.ext (by show L.1 = 1 * L.1 + 0 * _; rw [Int.one_mul, Int.zero_mul, Int.add_zero]) (by show L.2 = 1 * L.2 + 0 * _; rw [Int.one_mul, Int.zero_mul, Int.add_zero])⟩
theorem mul_cross {L a b : Int × Int} (ha : Mul L a) (hb : Mul L b) : norm3 L ∣ cross3 a b := by
  obtain ⟨x, y, rfl⟩ := ha
  obtain ⟨u, v, rfl⟩ := hb
  exact ⟨x * v - y * u, by simp only [cross3, norm3]; grind⟩
theorem cross_self (L : Int × Int) : cross3 L (turn3 L) = norm3 L := by
  show L.1 * L.1 - L.2 * (L.1 - L.2) = L.1 * L.1 - L.1 * L.2 + L.2 * L.2
  rw [Int.mul_sub, Int.mul_comm L.2 L.1]; omega
/-- d divides t's conjugate times h -/
noncomputable def Dv (d : Int) (t h : Int × Int) : Prop := d ∣ cross3 t h ∧ d ∣ cross3 h (turn3 t)
theorem cross_sub (t a b : Int × Int) : cross3 t (sub3 a b) = cross3 t a - cross3 t b := by
  show t.1 * (a.2 - b.2) - t.2 * (a.1 - b.1) = t.1 * a.2 - t.2 * a.1 - (t.1 * b.2 - t.2 * b.1)
  rw [Int.mul_sub, Int.mul_sub]; omega
theorem cross_anti (s t : Int × Int) : cross3 s t = -cross3 t s := by
  show s.1 * t.2 - s.2 * t.1 = -(t.1 * s.2 - t.2 * s.1)
  rw [Int.mul_comm t.1, Int.mul_comm t.2]; omega
theorem cross_turn2 (s t : Int × Int) : cross3 (turn3 s) (turn3 t) = cross3 s t := by
  show (s.1 - s.2) * t.1 - s.1 * (t.1 - t.2) = s.1 * t.2 - s.2 * t.1
  rw [Int.sub_mul, Int.mul_sub]; omega
theorem cross_turn (s t : Int × Int) : cross3 s (turn3 t) = cross3 s t + cross3 t (turn3 s) := by
  show s.1 * t.1 - s.2 * (t.1 - t.2) = s.1 * t.2 - s.2 * t.1 + (t.1 * s.1 - t.2 * (s.1 - s.2))
  rw [Int.mul_sub, Int.mul_sub, Int.mul_comm t.1 s.1, Int.mul_comm t.2 s.1, Int.mul_comm t.2 s.2]; omega
theorem dv_symm {d : Int} {t h : Int × Int} (k : Dv d t h) : Dv d h t := ⟨by rw [cross_anti]; exact Int.dvd_neg.mpr k.1, by rw [cross_turn]; exact Int.dvd_add k.1 k.2⟩
theorem dv_of {d : Int} {s t : Int × Int} (h1 : d ∣ cross3 s t) (h2 : d ∣ cross3 s (turn3 t)) : Dv d t s := ⟨by rw [cross_anti]; exact Int.dvd_neg.mpr h1, h2⟩
theorem dv_self {d : Int} {t : Int × Int} (h : d ∣ cross3 t (turn3 t)) : Dv d t t := ⟨⟨0, by show t.1 * t.2 - t.2 * t.1 = d * 0; rw [Int.mul_comm t.1, Int.sub_self, Int.mul_zero]⟩, h⟩
theorem dv_idl (d : Int) (t : Int × Int) : Idl (Dv d t) where
  sub a b ha hb := ⟨by rw [cross_sub]; exact Int.dvd_sub ha.1 hb.1, by rw [cross_anti, cross_sub]; exact Int.dvd_neg.mpr (Int.dvd_sub (by rw [cross_anti]; exact Int.dvd_neg.mpr ha.2) (by rw [cross_anti]; exact Int.dvd_neg.mpr hb.2))⟩
  turn a ha := ⟨by rw [cross_turn]; exact Int.dvd_add ha.1 ha.2, by rw [cross_turn2]; exact (cross_anti a t) ▸ Int.dvd_neg.mpr ha.1⟩
theorem gcd_mul {ss : List (Int × Int)} {L : Int × Int} (h : SameI ss [L]) : ∀ s ∈ ss, Mul L s := All.at ((h _ (mul_idl L)).mpr ⟨mul_self L, trivial⟩)
theorem gcd_dv {ss : List (Int × Int)} {L : Int × Int} (h : SameI ss [L]) {d : Int} (hd : ∀ r ∈ told ss, d ∣ r) : d ∣ norm3 L := by
  have h1 := toldG_two (P := (d ∣ ·)) (Q := Dv d) (fun c => dv_self) (fun s c k1 k2 => ⟨dv_symm (dv_of k1 k2), dv_of k1 k2⟩) (rest := ss) (done := []) (fun s m => absurd m List.not_mem_nil) hd
  have h2 : ∀ t ∈ ss, Dv d t L := fun t ht => ((h _ (dv_idl d t)).mp (All.of fun s hs => h1 t ht s hs)).1
  have h3 := ((h _ (dv_idl d L)).mp (All.of fun s hs => dv_symm (h2 s hs))).1
  rw [← cross_self]
  exact h3.2
theorem told_mul {ss : List (Int × Int)} {L : Int × Int} (h : SameI ss [L]) : ∀ r ∈ told ss, norm3 L ∣ r :=
  toldG_all (done := []) fun s hs t ht => ⟨mul_cross (gcd_mul h s hs) (gcd_mul h t ht), mul_cross (gcd_mul h s hs) ((mul_idl L).turn t (gcd_mul h t ht))⟩
/-- the runs: the numbers without sign, but for nought -/
noncomputable def runs3 (ss : List (Int × Int)) : List Nat := ((told ss).filter (fun i => !(i == 0))).map Int.natAbs
theorem runs_mem {ss : List (Int × Int)} {r : Nat} (h : r ∈ runs3 ss) : ∃ i, i ∈ told ss ∧ i ≠ 0 ∧ i.natAbs = r := by
  obtain ⟨i, h1, h2⟩ := List.mem_map.mp h
  obtain ⟨h3, h4⟩ := List.mem_filter.mp h1
  exact ⟨i, h3, fun q => by subst q; exact falseE h4, h2⟩
theorem runs_pos {ss : List (Int × Int)} : ∀ r ∈ runs3 ss, 1 ≤ r := fun r hr => by
  obtain ⟨i, _, h, rfl⟩ := runs_mem hr
  omega
theorem runs_dvd {ss : List (Int × Int)} {L : Int × Int} (h : SameI ss [L]) (d : Nat) : (∀ r ∈ runs3 ss, d ∣ r) ↔ (d : Int) ∣ norm3 L := by
  refine ⟨fun hd => gcd_dv h fun r hr => ?_, fun hd r hr => ?_⟩
  · by_cases h0 : r = 0
    · subst h0; exact Int.dvd_zero _
    · exact Int.ofNat_dvd_left.mpr (hd r.natAbs (List.mem_map.mpr ⟨r, List.mem_filter.mpr ⟨hr, by rw [beq_eq_false_iff_ne.mpr h0]; rfl⟩, rfl⟩))
  · obtain ⟨i, h1, _, rfl⟩ := runs_mem hr
    exact Int.ofNat_dvd_left.mp (Int.dvd_trans hd (told_mul h i h1))
theorem cross100 : (spots3.all fun s => spots3.all fun t => decide ((cross3 s t).natAbs ≤ 200 ∧ (cross3 s (turn3 t)).natAbs ≤ 200)) = true := by decide +kernel
theorem runs_le {ss : List (Int × Int)} (hm : All (· ∈ spots3) ss) : ∀ r ∈ runs3 ss, r ≤ 200 := fun r hr => by
  obtain ⟨i, h, _, rfl⟩ := runs_mem hr
  exact toldG_all (P := fun i => i.natAbs ≤ 200) (done := []) (fun s hs t ht => of_decide_eq_true (List.all_eq_true.mp (List.all_eq_true.mp cross100 s (hm.at s hs)) t (hm.at t ht))) i h
theorem told_len : ∀ {ss : List (Int × Int)}, ss.length ≤ 3 → (told ss).length ≤ 9
  | [], _ => (by decide : 0 ≤ 9)
  | [_], _ => (by decide : 1 ≤ 9)
  | [_, _], _ => (by decide : 4 ≤ 9)
  | [_, _, _], _ => (by decide : 9 ≤ 9)
  | _ :: _ :: _ :: _ :: _, h => absurd h (by simp)
theorem runs_len {ss : List (Int × Int)} (h : ss.length ≤ 3) : (runs3 ss).length ≤ 9 := by
  unfold runs3
  rw [List.length_map]
  exact Nat.le_trans (List.length_filter_le ..) (told_len h)
end Ev
end
section
set_option maxRecDepth 100000
set_option autoImplicit false
set_option linter.all false
set_option maxHeartbeats 4000000
namespace Ev
open PySem
noncomputable def riBody : List S := [.expr (.append (.var 1) (.call 3 [(.idx (.var 0) (.var 3)), (.idx (.var 0) (.var 2))])), .expr (.append (.var 1) (.call 3 [(.idx (.var 0) (.var 3)), (.call 1 [(.idx (.var 0) (.var 2))])]))]
noncomputable def roBody : List S := [.expr (.append (.var 1) (.call 3 [(.idx (.var 0) (.var 2)), (.call 1 [(.idx (.var 0) (.var 2))])])), .for (.var 3) (.bi .range [(.var 2)]) riBody]
noncomputable def riF (Δ : Dl) : D → Vars → Sto → Option (Flw × Vars × Sto) := fun d vars σ => (asgT (.var 3) d vars).bind fun vars => exSs Δ 194 riBody vars σ
noncomputable def roF (Δ : Dl) : D → Vars → Sto → Option (Flw × Vars × Sto) := fun d vars σ => (asgT (.var 2) d vars).bind fun vars => exSs Δ 197 roBody vars σ
noncomputable abbrev rv (ds : List D) (j i : Option D) : Vars := [some (.lst ds), some (.loc 0), j, i, none, none, none, none]
structure RunDl (Δ : Dl) : Prop where
  turn : ∀ s : Int × Int, Δ.fns 1 [sp3 s] = some (sp3 (turn3 s))
  cross : ∀ s t : Int × Int, s ∈ spots3 → Δ.fns 3 [sp3 s, sp3 t] = some (.int (cross3 s t))
section
variable {Δ : Dl} {ds : List D} {i j : Nat} {a b c : Int × Int} {x y : Option D} {xs : List D}
theorem ri_step (hΔ : RunDl Δ) (ha : a ∈ spots3) (hi : ds[i]? = some (sp3 a)) (hj : ds[j]? = some (sp3 b)) (bi : i ≤ 1000) (bj : j ≤ 1000) (hx : xs.length + 2 ≤ 1000) :
    riF Δ (.int i) (rv ds (some (.int j)) x) [some (.lst xs)] = some (.next, rv ds (some (.int j)) (some (.int i)), [some (.lst (xs ++ [.int (cross3 a b), .int (cross3 a (turn3 b))]))]) := by
  have ei : ∀ n ys, evE Δ (n + 1 + 1) (.idx (.var 0) (.var 3)) (rv ds (some (.int j)) (some (.int i))) [some (.lst ys)] = some (sp3 a, [some (.lst ys)]) := fun n ys => evE_idx (a := .var 0) (b := .var 3) rfl rfl rfl rfl (Int.natCast_nonneg i) (small_le (Nat.le_trans bi (by decide))) hi
  have ej : ∀ n ys, evE Δ (n + 1 + 1) (.idx (.var 0) (.var 2)) (rv ds (some (.int j)) (some (.int i))) [some (.lst ys)] = some (sp3 b, [some (.lst ys)]) := fun n ys => evE_idx (a := .var 0) (b := .var 2) rfl rfl rfl rfl (Int.natCast_nonneg j) (small_le (Nat.le_trans bj (by decide))) hj
  have hx1 : xs.length < maxLen := Nat.lt_of_lt_of_le (Nat.lt_of_succ_le (Nat.le_of_succ_le hx)) (by decide)
  have hx2 : (xs ++ [D.int (cross3 a b)]).length < maxLen := by rw [List.length_append]; exact Nat.lt_of_lt_of_le (Nat.lt_of_succ_le hx) (by decide)
  refine (exSs_cons (n := 193) (σ' := [some (.lst (xs ++ [.int (cross3 a b)]))]) (exS_expr (evE_append (l := 0) (o := .var 1) (σ2 := [some (.lst xs)]) rfl rfl (evE_call (ds := [sp3 a, sp3 b]) (evEs_cons (ei _ xs) (evEs_cons (es := []) (ej _ xs) rfl)) rfl (hΔ.cross a b ha)) rfl hx1))).trans ?_
  refine (exSs_one (exS_expr (evE_append (l := 0) (o := .var 1) (σ2 := [some (.lst (xs ++ [.int (cross3 a b)]))]) rfl rfl (evE_call (ds := [sp3 a, sp3 (turn3 b)]) (evEs_cons (ei _ _) (evEs_cons (es := []) (evE_call (ds := [sp3 b]) (evEs_cons (es := []) (ej _ _) rfl) rfl (hΔ.turn b)) rfl)) rfl (hΔ.cross a _ ha)) rfl hx2))).trans ?_
  rw [List.append_assoc]; rfl
theorem at_app {α : Type} (l : List α) (a : α) (r : List α) : (l ++ a :: r)[l.length]? = some a := by rw [List.getElem?_append_right (Nat.le_refl _), Nat.sub_self]; rfl
theorem ri_loop (hΔ : RunDl Δ) (hj : ds[j]? = some (sp3 c)) (bj : j ≤ 1000) : ∀ (pre post : List (Int × Int)) (xs : List D) (x : Option D), (∀ s ∈ post, s ∈ spots3) → (∃ tl, ds = (pre ++ post).map sp3 ++ tl) → pre.length + post.length ≤ 1000 → xs.length + 2 * post.length ≤ 1000 →
    ∃ x', forD (riF Δ) ((intsFrom pre.length post.length).map .int) (rv ds (some (.int j)) x) [some (.lst xs)] = some (.next, rv ds (some (.int j)) x', [some (.lst (xs ++ (prs post c).map .int))])
  | pre, [], xs, x, _, _, _, _ => ⟨x, by show some _ = _; rw [show xs ++ (prs [] c).map D.int = xs from List.append_nil xs]⟩
  | pre, s :: post, xs, x, hm, ⟨tl, ht⟩, hl, hx => by
    have hi : ds[pre.length]? = some (sp3 s) := by
      have h := at_app (pre.map sp3) (sp3 s) (post.map sp3 ++ tl)
      rw [List.length_map] at h
      rw [ht, List.map_append, List.append_assoc]; exact h
    have e1 := ri_step hΔ (x := x) (hm s List.mem_cons_self) hi hj (Nat.le_trans (Nat.le_add_right _ _) hl) bj (Nat.le_trans (Nat.add_le_add_left (Nat.le_mul_of_pos_right 2 (Nat.succ_pos post.length)) _) hx)
    obtain ⟨x', e2⟩ := ri_loop hΔ hj bj (pre ++ [s]) post (xs ++ [.int (cross3 s c), .int (cross3 s (turn3 c))]) (some (.int pre.length)) (fun q m => hm q (List.mem_cons_of_mem _ m)) ⟨tl, by rw [List.append_assoc]; exact ht⟩ (by rw [List.length_append, Nat.add_assoc, Nat.add_comm [s].length]; exact hl) (by rw [List.length_append, Nat.add_assoc, Nat.add_comm _ (2 * post.length)]; exact hx)
    rw [List.length_append, List.append_assoc] at e2
    exact ⟨x', (for_turn e1).trans e2⟩
/-- one turn of the outer loop -/
theorem ro_step (hΔ : RunDl Δ) {done : List (Int × Int)} (hc : c ∈ spots3) (hm : ∀ s ∈ done, s ∈ spots3) (hd : ∃ tl, ds = done.map sp3 ++ sp3 c :: tl) (hl : done.length ≤ 20) (hx : xs.length ≤ 100) :
    ∃ x', roF Δ (.int done.length) (rv ds y x) [some (.lst xs)] = some (.next, rv ds (some (.int done.length)) x', [some (.lst (xs ++ (cross3 c (turn3 c) :: prs done c).map .int))]) := by
  obtain ⟨tl, ht⟩ := hd
  have hj : ds[done.length]? = some (sp3 c) := by
    have h := at_app (done.map sp3) (sp3 c) tl
    rw [List.length_map] at h
    rw [ht]; exact h
  have bj : done.length ≤ 1000 := Nat.le_trans hl (by decide)
  have ej : ∀ n, evE Δ (n + 1 + 1) (.idx (.var 0) (.var 2)) (rv ds (some (.int done.length)) x) [some (.lst xs)] = some (sp3 c, [some (.lst xs)]) := fun n => evE_idx (a := .var 0) (b := .var 2) rfl rfl rfl rfl (Int.natCast_nonneg _) (small_le (Nat.le_trans hl (by decide))) hj
  obtain ⟨x', e⟩ := ri_loop hΔ hj bj [] done (xs ++ [.int (cross3 c (turn3 c))]) x hm ⟨_, ht⟩ (by rw [List.length_nil, Nat.zero_add]; exact bj) (by rw [List.length_append]; exact Nat.le_trans (Nat.add_le_add (Nat.succ_le_succ hx) (Nat.mul_le_mul_left 2 hl)) (by decide))
  have hi := itE_range1 (Δ := Δ) (n := 193) (e := .var 2) (vars := rv ds (some (.int done.length)) x) (σ := [some (.lst (xs ++ [.int (cross3 c (turn3 c))]))]) (b := done.length) rfl (small_le (Nat.le_trans hl (by decide))) (by rw [Int.toNat_natCast]; exact Nat.le_trans hl (by decide))
  rw [Int.toNat_natCast] at hi
  rw [List.append_assoc] at e
  refine ⟨x', (exSs_cons (n := 196) (σ' := [some (.lst (xs ++ [.int (cross3 c (turn3 c))]))]) (exS_expr (evE_append (l := 0) (o := .var 1) (σ2 := [some (.lst xs)]) rfl rfl (evE_call (ds := [sp3 c, sp3 (turn3 c)]) (evEs_cons (ej _) (evEs_cons (es := []) (evE_call (ds := [sp3 c]) (evEs_cons (es := []) (ej _) rfl) rfl (hΔ.turn c)) rfl)) rfl (hΔ.cross c _ hc)) rfl (Nat.lt_of_le_of_lt hx (by decide))))).trans (exSs_one ((exS_for hi).trans e))⟩
theorem ro_loop (hΔ : RunDl Δ) : ∀ (rest done : List (Int × Int)) (xs : List D) (y x : Option D), (∀ s ∈ done ++ rest, s ∈ spots3) → ds = (done ++ rest).map sp3 → done.length + rest.length ≤ 3 → xs.length + (toldG done rest).length ≤ 100 →
    ∃ y' x', forD (roF Δ) ((intsFrom done.length rest.length).map .int) (rv ds y x) [some (.lst xs)] = some (.next, rv ds y' x', [some (.lst (xs ++ (toldG done rest).map .int))])
  | [], done, xs, y, x, _, _, _, _ => ⟨y, x, by show some _ = _; rw [show xs ++ (toldG done []).map D.int = xs from List.append_nil xs]⟩
  | c :: rest, done, xs, y, x, hm, hd, hl, hx => by
    have hx0 : xs.length ≤ 100 := Nat.le_trans (Nat.le_add_right _ _) hx
    obtain ⟨x1, e1⟩ := ro_step (ds := ds) hΔ (y := y) (x := x) (xs := xs) (c := c) (done := done) (hm c (List.mem_append_right _ List.mem_cons_self)) (fun s m => hm s (List.mem_append_left _ m)) ⟨rest.map sp3, by rw [hd, List.map_append]; rfl⟩ (Nat.le_trans (Nat.le_trans (Nat.le_add_right _ _) hl) (by decide)) hx0
    obtain ⟨y', x', e2⟩ := ro_loop hΔ rest (done ++ [c]) (xs ++ (cross3 c (turn3 c) :: prs done c).map .int) (some (.int done.length)) x1 (fun s m => hm s (by rw [List.append_assoc] at m; exact m)) (by rw [List.append_assoc]; exact hd) (by rw [List.length_append, Nat.add_assoc, Nat.add_comm [c].length]; exact hl) (by
      have h : (toldG done (c :: rest)).length = (cross3 c (turn3 c) :: prs done c).length + (toldG (done ++ [c]) rest).length := List.length_append ..
      rw [List.length_append, List.length_map, Nat.add_assoc, ← h]; exact hx)
    rw [List.length_append, List.append_assoc, ← List.map_append] at e2
    exact ⟨y', x', (for_turn e1).trans e2⟩
end
theorem abs_nat (i : Int) : D.int (if i < 0 then -i else i) = D.int (i.natAbs : Int) := by
  congr 1
  split <;> omega
theorem runs_ok {Δ : Dl} (hΔ : RunDl Δ) {ss : List (Int × Int)} (h3 : ss.length ≤ 3) (hm : All (· ∈ spots3) ss) : runP Δ 200 flawruns [.lst (ss.map sp3)] = some (.lst ((runs3 ss).map fun (r : Nat) => .int r)) := by
  have hpp : D.pures (ss.map sp3) = true := pures_map sp3 (fun _ => rfl) _
  have hk : (ss.map sp3).length ≤ maxLen := by rw [List.length_map]; exact Nat.le_trans h3 (by decide)
  obtain ⟨p, q, hf⟩ := ro_loop hΔ (ds := ss.map sp3) ss [] [] none none hm.at rfl (by rw [List.length_nil, Nat.zero_add]; exact h3) (by rw [List.length_nil, Nat.zero_add]; exact Nat.le_trans (told_len h3) (by decide))
  have hlen := evE_len1 (Δ := Δ) (n := 193) (a := .var 0) (vars := rv (ss.map sp3) none none) (σ := [some (.lst [])]) rfl rfl hk
  rw [List.length_map] at hlen
  have hi := itE_range1 (evEs_cons (es := []) hlen rfl) (small_le (Nat.le_trans h3 (by decide))) (by rw [Int.toNat_natCast]; exact Nat.le_trans h3 (by decide))
  rw [Int.toNat_natCast] at hi
  have hl9 : (told ss).length ≤ maxLen := Nat.le_trans (told_len h3) (by decide)
  have hc := evE_compF (Δ := Δ) (n := 193) (vars := rv (ss.map sp3) p q) (σ := [some (.lst ((told ss).map .int))]) (ini := [none, none, none]) (elt := .bi .abs [.var 1]) (it := .var 1) (c := .cmp .NotEq (.var 1) (.lit (.int 0))) (t := .var 1) D.int (fun i => .int (i.natAbs : Int)) (fun i => !(i == 0)) (fun vs => ∃ x, vs = [none, x, none]) (itE_loc rfl rfl hl9) rfl hl9 (by
    rintro i hi vs ⟨x, rfl⟩
    exact ⟨[none, some (.int i), none], rfl, ⟨_, rfl⟩, tr_cmp (a := .var 1) (b := .lit (.int 0)) rfl rfl rfl rfl (cmpR_ne (by decide : 0 ≤ 50) rfl), fun _ => evE_bi_of (ds := [.int i]) rfl rfl (congrArg some (abs_nat i)) rfl rfl⟩) ⟨none, rfl⟩
  refine (Rets.run (d := .lst (((told ss).filter (fun i => !(i == 0))).map fun i => .int (i.natAbs : Int))) (Rets.step (σ' := [some (.lst [])]) (exS_asg1 (d := .loc 0) rfl rfl) (Rets.step ((exS_for hi).trans hf) ⟨_, _, exSs_ret (exS_ret hc rfl)⟩)) rfl (by show (D.pures (ss.map sp3) && true) = true; rw [hpp]; rfl) (pures_map _ (fun _ => rfl) _)).trans ?_
  unfold runs3
  rw [List.map_map]; rfl
end Ev
end
section
set_option maxRecDepth 100000
set_option autoImplicit false
set_option linter.all false
set_option maxHeartbeats 4000000
namespace Ev
open PySem
/-! the whole sizes -/
theorem div_at {i r : Nat} (hi : 1 ≤ i) (hr : 1 ≤ r) : (i ∣ r → r / i = (r - 1) / i + 1) ∧ (¬ i ∣ r → r / i = (r - 1) / i) := by
  obtain ⟨k, rfl⟩ : ∃ k, r = k + 1 := ⟨r - 1, (Nat.sub_add_cancel hr).symm⟩
  rw [Nat.add_sub_cancel, Nat.succ_div]
  exact ⟨fun h => if_pos h ▸ rfl, fun h => by rw [if_neg h]; rfl⟩
theorem sum_lt {a b c d : Int} {k l : Nat} (h1 : 0 ≤ a - b ∧ a - b ≤ k) (e : c = d ∨ c = d + 1) : 0 ≤ c + a - (d + b) ∧ c + a - (d + b) ≤ ((k + 1 : Nat) : Int) := by omega
theorem sum_all {a b c d : Int} {k : Nat} (h1 : 0 ≤ a - b ∧ a - b ≤ k) (e : c = d + 1) : c + a - (d + b) = ((k + 1 : Nat) : Int) ↔ a - b = k := by omega
theorem sum_not {a b c d : Int} {k : Nat} (h1 : 0 ≤ a - b ∧ a - b ≤ k) (e : c = d) : ¬ (c + a - (d + b) = ((k + 1 : Nat) : Int)) := by omega
noncomputable abbrev dsum (i : Nat) (runs : List Nat) : Int := rsum (fun r => ((r / i : Nat) : Int)) runs
theorem rsum_pred {i : Nat} (hi : 1 ≤ i) : ∀ (runs : List Nat), (∀ r ∈ runs, 1 ≤ r) → (0 ≤ dsum i runs - dsum i (runs.map (· - 1)) ∧ dsum i runs - dsum i (runs.map (· - 1)) ≤ runs.length) ∧ (dsum i runs - dsum i (runs.map (· - 1)) = runs.length ↔ ∀ r ∈ runs, i ∣ r)
  | [], _ => ⟨⟨Int.le_refl 0, Int.le_refl 0⟩, fun _ r m => absurd m List.not_mem_nil, fun _ => rfl⟩
  | r :: runs, h => by
    obtain ⟨h1, h2⟩ := rsum_pred hi runs (fun q hq => h q (List.mem_cons_of_mem _ hq))
    obtain ⟨d1, d2⟩ := div_at hi (h r List.mem_cons_self)
    show (0 ≤ ((r / i : Nat) : Int) + dsum i runs - ((((r - 1) / i : Nat) : Int) + dsum i (runs.map (· - 1))) ∧ ((r / i : Nat) : Int) + dsum i runs - ((((r - 1) / i : Nat) : Int) + dsum i (runs.map (· - 1))) ≤ ((runs.length + 1 : Nat) : Int)) ∧ (((r / i : Nat) : Int) + dsum i runs - ((((r - 1) / i : Nat) : Int) + dsum i (runs.map (· - 1))) = ((runs.length + 1 : Nat) : Int) ↔ ∀ q ∈ r :: runs, i ∣ q)
    by_cases hr : i ∣ r
    · have e : ((r / i : Nat) : Int) = (((r - 1) / i : Nat) : Int) + 1 := congrArg Int.ofNat (d1 hr)
      exact ⟨sum_lt (l := 0) h1 (.inr e), (sum_all h1 e).trans (h2.trans (List.forall_mem_cons.trans ⟨fun q => q.2, fun q => ⟨hr, q⟩⟩).symm)⟩
    · have e : ((r / i : Nat) : Int) = (((r - 1) / i : Nat) : Int) := congrArg Int.ofNat (d2 hr)
      exact ⟨sum_lt (l := 0) h1 (.inl e), fun q => absurd q (sum_not h1 e), fun q => absurd (q r List.mem_cons_self) hr⟩
/-- the indent level of a lead without blanks behind -/
noncomputable def ilv (runs : List Nat) (i : Int) : Int := 0 + (i.toNat : Int) * (dsum i.toNat runs + runs.length)
theorem ilv_sub (runs : List Nat) (k : Nat) : ilv runs k - ilv (runs.map (· - 1)) k = k * (dsum k runs - dsum k (runs.map (· - 1))) := by
  unfold ilv
  rw [Int.toNat_natCast, List.length_map, Int.mul_sub, Int.mul_add, Int.mul_add]; omega
theorem whole_at {runs : List Nat} {N : Int} {k : Nat} (h1 : ∀ r ∈ runs, 1 ≤ r) (hne : runs ≠ []) (hd : ∀ d : Nat, (∀ r ∈ runs, d ∣ r) ↔ (d : Int) ∣ N) (hi : 1 ≤ k) :
    ((ilv runs k - ilv (runs.map (· - 1)) k == k * runs.length) && (ilv runs k != ilv (runs.map (· - 1)) k)) = (N.fmod k == 0) := by
  have hl : 1 ≤ runs.length := List.length_pos_iff.mpr hne
  have hk : (k : Int) ≠ 0 := by omega
  have a3 := ((rsum_pred hi runs h1).2.trans (hd k)).trans Int.dvd_iff_fmod_eq_zero
  have e := ilv_sub runs k
  cases q : N.fmod k == 0 with
  | true =>
    have z := a3.mpr (eq_of_beq q)
    rw [z] at e
    have hp : (k : Int) * (runs.length : Int) ≠ 0 := Int.mul_ne_zero hk (by omega)
    rw [e, beq_self_eq_true, Bool.true_and]
    exact bne_iff_ne.mpr fun w => hp (by rw [← e, w, Int.sub_self])
  | false =>
    have z : (ilv runs k - ilv (runs.map (· - 1)) k == k * runs.length) = false := beq_eq_false_iff_ne.mpr fun w => (beq_eq_false_iff_ne.mp q) (a3.mp (Int.eq_of_mul_eq_mul_left hk (e.symm.trans w)))
    rw [z]; rfl
theorem whole_eq {runs : List Nat} {N : Int} {m : Nat} (h1 : ∀ r ∈ runs, 1 ≤ r) (hne : runs ≠ []) (hN : 1 ≤ N) (hm : N ≤ m) (hd : ∀ d : Nat, (∀ r ∈ runs, d ∣ r) ↔ (d : Int) ∣ N) :
    ((intsFrom 1 m).filter (fun i => ilv runs i != ilv (runs.map (· - 1)) i)).filter (fun i => ilv runs i - ilv (runs.map (· - 1)) i == i * runs.length) = (intsFrom 1 N.toNat).filter (fun i => N.fmod i == 0) := by
  have key : ∀ i : Int, 1 ≤ i → ((ilv runs i - ilv (runs.map (· - 1)) i == i * runs.length) && (ilv runs i != ilv (runs.map (· - 1)) i)) = (N.fmod i == 0) := fun i hi => by
    obtain ⟨k, rfl⟩ : ∃ k : Nat, i = k := ⟨i.toNat, by omega⟩
    exact whole_at h1 hne hd (by omega)
  rw [List.filter_filter, List.filter_congr fun a ha => key a (mem_intsFrom.mp ha).1]
  obtain ⟨j, rfl⟩ : ∃ j, m = N.toNat + j := ⟨m - N.toNat, by omega⟩
  rw [intsFrom_app, List.filter_append]
  have e2 : (intsFrom (1 + (N.toNat : Int)) j).filter (fun i => N.fmod i == 0) = [] := List.filter_eq_nil_iff.mpr fun a ha q => by
    have h := (mem_intsFrom.mp ha).1
    have := Int.le_of_dvd (by omega) (Int.dvd_iff_fmod_eq_zero.mpr (eq_of_beq q))
    omega
  rw [e2, List.append_nil]
/-! the short defs -/
theorem turned_ok {Δ : Dl} (s : Int × Int) : runP Δ 200 flawturned [sp3 s] = some (sp3 (turn3 s)) := rfl
theorem cross_ok {Δ : Dl} {s : Int × Int} (h : Spot s) (t : Int × Int) : runP Δ 200 flawcross [sp3 s, sp3 t] = some (.int (cross3 s t)) :=
  Rets.run (Rets.ret (x := .int (cross3 s t)) (evE_ii (evE_ii (a := .idx (.var 0) (.lit (.int 0))) (i := s.1) (b := .idx (.var 1) (.lit (.int 1))) (j := t.2) rfl rfl (mul_ok (small_of (by have := h.x; omega)))) (evE_ii (a := .idx (.var 0) (.lit (.int 1))) (i := s.2) (b := .idx (.var 1) (.lit (.int 0))) (j := t.1) rfl rfl (mul_ok (small_of (by have := h.y; omega)))) rfl) rfl) rfl rfl rfl
theorem lead_text (runs : List Nat) : leadText runs 0 [32, 9] = runText runs ++ [120, 32, 9] := rfl
theorem addS {a b : List Nat} (h : a.length + b.length ≤ maxLen) : binD .Add (.str a) (.str b) = some (.str (a ++ b)) := if_pos h
theorem lead_ok {Δ : Dl} (hot : Δ.hot = true) {runs : List Nat} {W : D} (hb : ∀ r ∈ runs, r ≤ 200) (hl : runs.length ≤ 20) (hn : Δ.new (.str (leadText runs 0 [32, 9])) = some W) (hp : W.pure = true) (hf : ∀ σ, frz σ W = some (W, σ)) : runP Δ 200 flawlead [.lst (runs.map fun (r : Nat) => .int r)] = some W := by
  have hlen := Nat.le_trans (runText_len runs 200 hb) (Nat.mul_le_mul_right 201 hl)
  have hc := evE_compM (Δ := Δ) (n := 193) (vars := [some (.lst (runs.map fun (r : Nat) => .int r)), none]) (σ := []) (ini := [none, none]) (elt := .bin .Add (.bin .Mult (.lit (.str [32])) (.var 1)) (.lit (.str [9]))) (it := .var 0) (t := .var 1) (fun (r : Nat) => D.int r) (fun r => .str (List.replicate r 32 ++ [9])) (fun vs => ∃ x, vs = [none, x]) (itE_lst rfl (Nat.le_trans hl (by decide))) rfl (Nat.le_trans hl (by decide)) (by
    rintro r hr vs ⟨x, rfl⟩
    exact ⟨[none, some (.int r)], rfl, ⟨_, rfl⟩, evE_bd hot (evE_bd (a := .lit (.str [32])) (b := .var 1) hot rfl rfl rfl rfl rfl (runStr (Nat.le_trans (hb r hr) (by decide)))) (b := .lit (.str [9])) rfl rfl rfl rfl (addS (by rw [List.length_replicate]; exact Nat.le_trans (Nat.succ_le_succ (hb r hr)) (by decide)))⟩) ⟨none, rfl⟩
  have ej : joinD [] (runs.map fun r => D.str (List.replicate r 32 ++ [9])) = some (runText runs) := by
    rw [← runText_flatten, ← joinD_nil, List.map_map]; rfl
  refine Rets.run (Rets.ret (evE_new (evE_bd hot (evE_join (o := .lit (.str [])) rfl hc ej ?_) (b := .lit (.str [120, 32, 9])) rfl rfl rfl rfl (addS (Nat.le_trans (Nat.succ_le_succ (Nat.succ_le_succ (Nat.succ_le_succ hlen))) (by decide)))) rfl hn) (hf _)) rfl ?_ hp
  · rw [List.length_map]
    exact Nat.le_trans (Nat.add_le_add_right (Nat.add_le_add hlen hl) 0) (by decide)
  · show (D.pures (runs.map fun (r : Nat) => D.int r) && true) = true
    rw [pures_map _ (fun _ => rfl) _]; rfl
end Ev
end
section
set_option maxRecDepth 100000
set_option autoImplicit false
set_option linter.all false
set_option maxHeartbeats 4000000
namespace Ev
open PySem
theorem evE_sli {Δ : Dl} {n : Nat} {vars : Vars} {σ : Sto} {a : E} {lo hi st : Option E} {x y d : D} {lo' hi' st' : Option Int} (h1 : evE Δ n a vars σ = some (x, σ)) (h2 : evO Δ n lo vars σ = some (lo', σ)) (h3 : evO Δ n hi vars σ = some (hi', σ)) (h4 : evO Δ n st vars σ = some (st', σ)) (hr : res σ x = some y) (h : sliD y lo' hi' st' = some d) : evE Δ (n + 1) (.sli a lo hi st) vars σ = some (d, σ) :=
  (seq1_of (k := fun x => seq1 (evO Δ n lo vars) fun lo => seq1 (evO Δ n hi vars) fun hi => seq1 (evO Δ n st vars) (sliK x lo hi)) h1).trans ((seq1_of (k := fun lo => seq1 (evO Δ n hi vars) fun hi => seq1 (evO Δ n st vars) (sliK x lo hi)) h2).trans ((seq1_of (k := fun hi => seq1 (evO Δ n st vars) (sliK x lo' hi)) h3).trans ((seq1_of h4).trans (by
    show (res σ x).bind _ = _
    rw [hr]
    show (sliD y lo' hi' st').map _ = _
    rw [h]; rfl))))
/-- the codes -/
theorem first3 {Δ : Dl} {zs : List Int} (h : zs.length ≤ 63) : ∃ codes : List Int, codes ≠ [] ∧ codes.length ≤ 3 ∧ evE Δ 199 e3 (vs3 zs) [] = some (.loc 0, [some (.lst (codes.map .int))]) := by
  have hz : zs.length ≤ maxLen := Nat.le_trans h (by decide)
  obtain ⟨y0, s0⟩ := sli_ints (zs := zs) (lo := some 0) (hi := some 1) (st := none) hz (fun q => noneE q)
  obtain ⟨y1, s1⟩ := sli_ints (zs := zs) (lo := some 1) (hi := some 2) (st := none) hz (fun q => noneE q)
  obtain ⟨y2, s2, l2⟩ := sli_one hz 2
  refine ⟨[2 + sumInts y0, 91 + sumInts y1] ++ y2, List.cons_ne_nil _ _, Nat.succ_le_succ (Nat.succ_le_succ l2), ?_⟩
  have el : ∀ (k c : Int) (ys : List Int), sliD (.lst (zs.map .int)) (some k) (some (k + 1)) none = some (.lst (ys.map .int)) → evE Δ 197 (.bin .Add (.var 2) (.bi .sum [(.sli (.var 4) (some (.var 1)) (some (.bin .Add (.var 1) (.lit (.int 1)))) none)])) [none, some (.int k), some (.int c), none, some (.lst (zs.map .int))] [] = some (.int (c + sumInts ys), []) := fun k c ys hs =>
    evE_ii (a := .var 2) rfl (evE_bi_of (ds := [.lst (ys.map .int)]) (evEs_cons (es := []) (evE_sli (a := .var 4) (lo := some (.var 1)) (hi := some (.bin .Add (.var 1) (.lit (.int 1)))) (st := none) rfl rfl rfl rfl rfl hs) rfl) rfl (sum_lst rfl) rfl rfl) rfl
  have hc := evE_compM (Δ := Δ) (n := 196) (vars := vs3 zs) (σ := []) (ini := [none, none, none, none, some 0]) (elt := .bin .Add (.var 2) (.bi .sum [(.sli (.var 4) (some (.var 1)) (some (.bin .Add (.var 1) (.lit (.int 1)))) none)])) (t := .tup [1, 2]) (it := .bi .enumerate [(.lst [(.lit (.int 2)), (.lit (.int 91))])]) (l := [((0 : Int), (2 : Int), y0), (1, 91, y1)]) (fun p => .tup [.int p.1, .int p.2.1]) (fun p => .int (p.2.1 + sumInts p.2.2)) (fun vs => ∃ x y, vs = [none, x, y, none, some (.lst (zs.map .int))]) rfl rfl (by decide : 2 ≤ maxLen) (by
    rintro p hp vs ⟨x, y, rfl⟩
    refine ⟨[none, some (.int p.1), some (.int p.2.1), none, some (.lst (zs.map .int))], rfl, ⟨_, _, rfl⟩, ?_⟩
    rcases List.mem_cons.mp hp with rfl | hp
    · exact el 0 2 y0 s0
    · rw [List.mem_singleton.mp hp]; exact el 1 91 y1 s1) ⟨none, none, rfl⟩
  exact (evE_addl hc (evE_sli (a := .var 0) (lo := some (.lit (.int 2))) (hi := some (.lit (.int 3))) (st := none) rfl rfl rfl rfl rfl s2) rfl rfl (by rw [List.length_map (as := y2)]; exact Nat.le_trans (Nat.add_le_add_left l2 2) (by decide : 2 + 1 ≤ maxLen))).trans rfl
end Ev
end
section
set_option maxRecDepth 100000
set_option autoImplicit false
set_option linter.all false
set_option maxHeartbeats 4000000
namespace Ev
open PySem
noncomputable def W3 (runs : List Nat) : D := wsInst (leadText runs 0 [32, 9]) (runs.foldl bump []) ((0 : Nat) : Int) ((runSum runs + 0 : Nat) : Int) ((runs.length : Nat) : Int)
structure LawDl (Δ : Dl) : Prop where
  run : RunDl Δ
  spot : ∀ c : Int, spotOf (c.fmod 120) ∈ spots3 ∧ Δ.fns 2 [.int (c.fmod 120)] = some (sp3 (spotOf (c.fmod 120)))
  name : ∀ s g, s ∈ spots3 → 0 ≤ g ∧ g < 4 → Δ.fns 4 [sp3 s, .int g] = some (nm3 s)
  back : ∀ r p, 1 ≤ r ∧ r ≤ 1000000 → Δ.fns 5 [.int r, .int p] = some (sp3 (back3 r p))
  common : ∀ g ss, 0 ≤ g ∧ g < 4 → ss ≠ [] → ss.length ≤ 3 → All (· ∈ spots3) ss → ∃ s, s ∈ spots3 ∧ SameI ss [s] ∧ Δ.fns 6 [.lst (ss.map nm3), .int g] = some (nm3 s)
  runs : ∀ ss, ss.length ≤ 3 → All (· ∈ spots3) ss → Δ.fns 7 [.lst (ss.map sp3)] = some (.lst ((runs3 ss).map fun (r : Nat) => .int r))
  lead : ∀ rs : List Nat, (∀ r ∈ rs, r ≤ 200) → rs.length ≤ 20 → Δ.fns 8 [.lst (rs.map fun (r : Nat) => .int r)] = some (W3 rs)
  wit : ∀ rs rs' : List Nat, (∀ r ∈ rs, r ≤ 200) → (∀ r ∈ rs', r ≤ 200) → ∃ m : Nat, longest rs ≤ m ∧ m ≤ 20000 ∧ Δ.fns 102 [W3 rs, W3 rs'] = some (.lst (((intsFrom 1 m).filter (fun i => ilv rs i != ilv rs' i)).map fun i => tup3 i (ilv rs i) (ilv rs' i)))
/-- the law's vars -/
noncomputable abbrev lv (zs : List Int) (ss : List (Int × Int)) (g : Int) (x4 : Option D) (L : Int × Int) (x12 x13 x14 : Option D) : Vars := [some (.lst (zs.map .int)), some (.loc 0), some (.lst (ss.map sp3)), some (.int g), x4, some (.lst (ss.map nm3)), some (.int (-norm3 L)), some (.int (ring3 L)), some (.int (place3 L)), some (sp3 L), some (sp3 (turn3 L)), some (.int (norm3 L)), x12, x13, x14, none, none, none, none, none, none, none, none, none]
section
variable {Δ : Dl} {n : Nat} {vars : Vars} {σ σ1 σ2 : Sto}
theorem tr_either {a b : E} {t : Bool} (h1 : trE Δ n a vars σ = some (false, σ1)) (h2 : trE Δ n b vars σ1 = some (t, σ2)) : trE Δ (n + 1) (.either a b) vars σ = some (t, σ2) :=
  (seq1_of (k := fun (t : Bool) (σ : Sto) => if t then some (true, σ) else trE Δ n b vars σ) h1).trans h2
end
theorem sp_eq (ss : List (Int × Int)) : eqD (.lst (ss.map sp3)) (.lst (ss.map sp3)) = some true := eq_same sp3 (fun a => by show some (a.1 == a.1 && (a.2 == a.2 && true)) = _; rw [beq_self_eq_true, beq_self_eq_true]; rfl) ss
/-- the check of one spot -/
noncomputable def chk4 : S := .ite (.either (.cmp .NotEq (.bin .Mod (.call 3 [(.var 4), (.var 10)]) (.var 11)) (.lit (.int 0))) (.cmp .NotEq (.bin .Mod (.call 3 [(.var 9), (.var 4)]) (.var 11)) (.lit (.int 0)))) [.ret (.lit (.bool false))] []
theorem chk_one {Δ : Dl} (hΔ : LawDl Δ) {zs : List Int} {ss : List (Int × Int)} {g : Int} {L c : Int × Int} (hL : L ∈ spots3) (hc : c ∈ spots3) (hm : Mul L c) : exSs Δ 189 [chk4] (lv zs ss g (some (sp3 c)) L none none none) [none] = some (.next, lv zs ss g (some (sp3 c)) L none none none, [none]) := by
  have n0 : norm3 L ≠ 0 := Int.ne_of_gt (geo_ok hL).spot.n.1
  have d1 := Int.dvd_iff_fmod_eq_zero.mp (mul_cross hm ((mul_idl L).turn L (mul_self L)))
  have d2 := Int.dvd_iff_fmod_eq_zero.mp (mul_cross (mul_self L) hm)
  exact exSs_one (exS_ifF (tr_either
    (tr_cmp (evE_ii (evE_call (ds := [sp3 c, sp3 (turn3 L)]) rfl rfl (hΔ.run.cross c (turn3 L) hc)) (b := .var 11) rfl (mod_ok n0)) (b := .lit (.int 0)) rfl rfl rfl (cmpR_ne (t := true) (by decide : 0 ≤ 50) (congrArg some (beq_iff_eq.mpr d1))))
    (tr_cmp (evE_ii (evE_call (ds := [sp3 L, sp3 c]) rfl rfl (hΔ.run.cross L c hL)) (b := .var 11) rfl (mod_ok n0)) (b := .lit (.int 0)) rfl rfl rfl (cmpR_ne (t := true) (by decide : 0 ≤ 50) (congrArg some (beq_iff_eq.mpr d2))))) rfl)
/-- up to the check of each spot -/
theorem law3a {Δ : Dl} (hΔ : LawDl Δ) {zs codes : List Int} (hz : zs.length ≤ 63) (h2 : codes ≠ []) (h3 : codes.length ≤ 3) {r : D} (k : ∀ ss g x4 L, ss.length ≤ 3 → All (· ∈ spots3) ss → L ∈ spots3 → SameI ss [L] → Rets Δ 190 (r3.drop 10) (lv zs ss g x4 L none none none) [none] r) :
    Rets Δ 200 r3 ((vs3 zs).set 1 (some (.loc 0))) [some (.lst (codes.map .int))] r := by
  have hz' : zs.length ≤ maxLen := Nat.le_trans hz (by decide)
  have hc' : codes.length ≤ maxLen := Nat.le_trans h3 (by decide)
  obtain ⟨ss, hss⟩ : ∃ ss : List (Int × Int), ss = codes.map fun c => spotOf (c.fmod 120) := ⟨_, rfl⟩
  have hm : All (· ∈ spots3) ss := All.of fun s hs => by
    rw [hss] at hs
    obtain ⟨c, _, rfl⟩ := List.mem_map.mp hs
    exact (hΔ.spot c).1
  have l3 : ss.length ≤ 3 := by rw [hss, List.length_map]; exact h3
  have l0 : ss ≠ [] := by rw [hss]; exact fun q => h2 (List.map_eq_nil_iff.mp q)
  have lm : ss.length ≤ maxLen := Nat.le_trans l3 (by decide)
  obtain ⟨ys, hys⟩ := sli_ints (lo := none) (hi := some 3) (st := none) hz' (fun q => noneE q)
  have hg4 : 0 ≤ (sumInts ys).fmod 4 ∧ (sumInts ys).fmod 4 < 4 := ⟨Int.fmod_nonneg_of_pos _ (by decide), Int.fmod_lt_of_pos _ (by decide)⟩
  obtain ⟨L, hL, hI, hcom⟩ := hΔ.common _ ss hg4 l0 l3 hm
  have gl := geo_ok hL
  have c2 := evE_compM (Δ := Δ) (n := 196) (vars := (vs3 zs).set 1 (some (.loc 0))) (σ := [some (.lst (codes.map .int))]) (ini := [none, none, none]) (elt := .call 2 [(.bin .Mod (.var 1) (.lit (.int 120)))]) (t := .var 1) (it := .var 1) D.int (fun c => sp3 (spotOf (c.fmod 120))) (fun vs => ∃ x, vs = [none, x, none]) (itE_loc (k := 0) rfl rfl hc') rfl hc' (by
    rintro c _ vs ⟨x, rfl⟩
    exact ⟨[none, some (.int c), none], rfl, ⟨_, rfl⟩, evE_call (ds := [.int (c.fmod 120)]) (evEs_cons (es := []) (evE_ii (a := .var 1) (b := .lit (.int 120)) rfl rfl (mod_ok (by decide))) rfl) rfl (hΔ.spot c).2⟩) ⟨none, rfl⟩
  have e2 : codes.map (fun c => sp3 (spotOf (c.fmod 120))) = ss.map sp3 := by rw [hss, List.map_map]; rfl
  rw [e2] at c2
  refine Rets.step (exS_asg1 c2 rfl) (Rets.asg (evE_ii (evE_bi_of (ds := [.lst (ys.map .int)]) (evEs_cons (es := []) (evE_sli (a := .var 0) (lo := none) (hi := some (.lit (.int 3))) (st := none) rfl rfl rfl rfl rfl hys) rfl) rfl (sum_lst rfl) rfl rfl) (b := .lit (.int 4)) rfl (mod_ok (by decide))) rfl ?_)
  refine Rets.asg (evE_compM (l := ss) sp3 nm3 (fun vs => ∃ x, vs = [none, x, none, some (.int ((sumInts ys).fmod 4))]) (itE_lst rfl lm) rfl lm (by
    rintro c hc vs ⟨x, rfl⟩
    exact ⟨[none, some (sp3 c), none, some (.int ((sumInts ys).fmod 4))], rfl, ⟨_, rfl⟩, evE_call (ds := [sp3 c, .int ((sumInts ys).fmod 4)]) rfl rfl (hΔ.name c _ (hm.at c hc) hg4)⟩) ⟨none, rfl⟩) rfl ?_
  refine Rets.skip (tr_cmp (evE_compM (l := ss) nm3 sp3 (fun vs => ∃ x y z, vs = [none, x, y, z, none]) (itE_lst rfl lm) rfl lm (by
    rintro c hc vs ⟨x, y, z, rfl⟩
    have gc := geo_ok (hm.at c hc)
    exact ⟨[none, some (.int (-norm3 c)), some (.int (ring3 c)), some (.int (place3 c)), none], rfl, ⟨_, _, _, rfl⟩, evE_call (ds := [.int (ring3 c), .int (place3 c)]) rfl rfl ((hΔ.back _ _ (ring_le gc.ring)).trans (congrArg (fun s => some (sp3 s)) gc.back))⟩) ⟨none, none, none, rfl⟩) (b := .var 2) rfl rfl rfl (cmpR_ne (t := true) (dep_lst sp3 (k := 1) (fun a => Nat.le_refl 1) (by decide) ss) (sp_eq ss))) ?_
  refine Rets.asgs (evE_call (ds := [.lst (ss.map nm3), .int ((sumInts ys).fmod 4)]) rfl (by show (D.pures (ss.map nm3) && (true && true)) = true; rw [nms_pure]; rfl) hcom) rfl ?_
  refine Rets.asg (evE_call (ds := [.int (ring3 L), .int (place3 L)]) rfl rfl ((hΔ.back _ _ (ring_le gl.ring)).trans (congrArg (fun s => some (sp3 s)) gl.back))) rfl ?_
  refine Rets.asg (evE_call (ds := [sp3 L]) rfl rfl (hΔ.run.turn L)) rfl ?_
  refine Rets.asg (evE_call (ds := [sp3 L, sp3 (turn3 L)]) rfl rfl ((hΔ.run.cross L (turn3 L) hL).trans (by rw [cross_self]))) rfl ?_
  refine Rets.skip (tr_cmp (a := .var 11) (b := .bin .Sub (.lit (.int 0)) (.var 6)) (x := .int (norm3 L)) (y := .int (0 - -norm3 L)) rfl rfl rfl rfl (cmpR_ne (t := true) (by decide : 0 ≤ 50) (congrArg some (beq_iff_eq.mpr (by omega))))) ?_
  obtain ⟨vs', e, ⟨x4, rfl⟩⟩ := forD_all (f := fun d vars σ => (asgT (.var 4) d vars).bind fun vars => exSs Δ 189 [chk4] vars σ) sp3 (fun vs => ∃ x4, vs = lv zs ss ((sumInts ys).fmod 4) x4 L none none none) (σ := [none]) (l := ss) (vs := lv zs ss ((sumInts ys).fmod 4) none L none none none) (by
    rintro c hc vs ⟨x, rfl⟩
    exact ⟨_, chk_one hΔ hL (hm.at c hc) (gcd_mul hI c hc), ⟨_, rfl⟩⟩) ⟨none, rfl⟩
  exact Rets.step ((exS_for (itE_lst (i := 2) rfl lm)).trans e) (k ss _ x4 L l3 hm hL hI)
theorem W3_pure (runs : List Nat) : (W3 runs).pure = true := pure_ws
theorem ints_pure (rs : List Nat) : D.pures [.lst (rs.map fun (r : Nat) => .int r)] = true := by
  show (D.pures (rs.map fun (r : Nat) => D.int r) && true) = true
  rw [pures_map _ (fun _ => rfl) _]; rfl
theorem evE_lenM {α : Type} {Δ : Dl} {n : Nat} {vars : Vars} {σ σ1 : Sto} {a : E} {enc : α → D} {l : List α} (h : evE Δ n a vars σ = some (.lst (l.map enc), σ1)) (hl : l.length ≤ maxLen) : evE Δ (n + 1 + 1) (.bi .len [a]) vars σ = some (.int l.length, σ1) := by
  have e := evE_len1 h rfl (by rw [List.length_map]; exact hl)
  rw [List.length_map] at e
  exact e
theorem pred_int {r : Nat} (h : 1 ≤ r) : (r : Int) - 1 = ((r - 1 : Nat) : Int) := by omega
/-- the leads, and what not_equal_witness tells of them -/
theorem law3b {Δ : Dl} (hΔ : LawDl Δ) {zs : List Int} {ss : List (Int × Int)} {g : Int} {x4 : Option D} {L : Int × Int} (l3 : ss.length ≤ 3) (hm : All (· ∈ spots3) ss) (hL : L ∈ spots3) (hI : SameI ss [L]) :
    Rets Δ 190 (r3.drop 10) (lv zs ss g x4 L none none none) [none] (.bool true) := by
  have hN := (geo_ok hL).spot.n
  have hrb := runs_le hm
  have hrl : (runs3 ss).length ≤ 20 := Nat.le_trans (runs_len l3) (by decide)
  have hpos := runs_pos (ss := ss)
  have hdv := runs_dvd hI
  have hrne : runs3 ss ≠ [] := fun q => by
    have h := Int.le_of_dvd hN.1 ((hdv 17).mp (by rw [q]; exact fun r m => absurd m List.not_mem_nil))
    exact absurd (Int.le_trans h hN.2) (by decide)
  have hruns := hΔ.runs ss l3 hm
  generalize runs3 ss = rs at *
  have hpb : ∀ r ∈ rs.map (· - 1), r ≤ 200 := fun r hr => by
    obtain ⟨q, hq, rfl⟩ := List.mem_map.mp hr
    exact Nat.le_trans (Nat.sub_le ..) (hrb q hq)
  have hpl : (rs.map (· - 1)).length ≤ 20 := by rw [List.length_map]; exact hrl
  obtain ⟨m, m1, m2, hwit⟩ := hΔ.wit rs (rs.map (· - 1)) hrb hpb
  have lrs : rs.length ≤ maxLen := Nat.le_trans hrl (by decide)
  have hwe := whole_eq (m := m) hpos hrne hN.1 (by
    obtain ⟨r, hr⟩ := List.exists_mem_of_ne_nil _ hrne
    have h1 := longest_mem hr
    have h2 := Nat.le_of_dvd (hpos r hr) ((hdv (norm3 L).toNat).mpr (by rw [Int.toNat_of_nonneg (Int.le_of_lt hN.1)]; exact Int.dvd_refl _) r hr)
    omega) hdv
  have lws : ((intsFrom 1 m).filter (fun i => ilv rs i != ilv (rs.map (· - 1)) i)).length ≤ maxLen := by
    refine Nat.le_trans (List.length_filter_le ..) ?_
    rw [intsFrom_len]
    exact Nat.le_trans m2 (by decide)
  generalize (intsFrom 1 m).filter (fun i => ilv rs i != ilv (rs.map (· - 1)) i) = ws at *
  obtain ⟨rs', hrs'⟩ : ∃ rs', rs' = rs.map (· - 1) := ⟨_, rfl⟩
  rw [← hrs'] at hpb hpl hwit hwe
  refine Rets.asg (evE_call (ds := [.lst (ss.map sp3)]) rfl (by show (D.pures (ss.map sp3) && true) = true; rw [pures_map sp3 (fun _ => rfl)]; rfl) hruns) rfl ?_
  have hd := evE_compM (Δ := Δ) (n := 181) (vars := lv zs ss g x4 L (some (.lst (rs.map fun (r : Nat) => .int r))) none none) (σ := [none]) (ini := [none, none]) (elt := .bin .Sub (.var 1) (.lit (.int 1))) (t := .var 1) (it := .var 12) (fun (r : Nat) => D.int r) (fun r => .int ((r - 1 : Nat) : Int)) (fun vs => ∃ x, vs = [none, x]) (itE_lst rfl lrs) rfl lrs (by
    rintro r hr vs ⟨x, rfl⟩
    exact ⟨[none, some (.int r)], rfl, ⟨_, rfl⟩, evE_ii (a := .var 1) (b := .lit (.int 1)) rfl rfl (congrArg (fun i => some (D.int i)) (pred_int (hpos r hr)))⟩) ⟨none, rfl⟩
  have ed : rs.map (fun r => D.int ((r - 1 : Nat) : Int)) = rs'.map fun (r : Nat) => .int r := by rw [hrs', List.map_map]; rfl
  rw [ed] at hd
  refine Rets.asg (meth_ok (evE_call (ds := [.lst (rs.map fun (r : Nat) => .int r)]) rfl (ints_pure rs) (hΔ.lead rs hrb hrl)) (evEs_cons (es := []) (evE_call (evEs_cons (es := []) hd rfl) (ints_pure rs') (hΔ.lead rs' hpb hpl)) rfl) (pures2 (W3_pure rs) (W3_pure rs')) hwit) rfl ?_
  have he := evE_compF (Δ := Δ) (n := 183) (vars := lv zs ss g x4 L (some (.lst (rs.map fun (r : Nat) => .int r))) (some (.lst (ws.map fun i => tup3 i (ilv rs i) (ilv rs' i)))) none) (σ := [none]) (ini := [none, none, none, none, none, some 12]) (elt := .var 1) (t := .tup [1, 2, 3]) (it := .var 13) (c := .cmp .Eq (.bin .Sub (.var 2) (.var 3)) (.bin .Mult (.var 1) (.bi .len [(.var 5)]))) (fun i => tup3 i (ilv rs i) (ilv rs' i)) D.int (fun i => ilv rs i - ilv rs' i == i * rs.length) (fun vs => ∃ x y z, vs = [none, x, y, z, none, some (.lst (rs.map fun (r : Nat) => .int r))]) (itE_lst rfl lws) rfl lws (by
    rintro i hi vs ⟨x, y, z, rfl⟩
    refine ⟨[none, some (.int i), some (.int (ilv rs i)), some (.int (ilv rs' i)), none, some (.lst (rs.map fun (r : Nat) => .int r))], rfl, ⟨_, _, _, rfl⟩, ?_, fun _ => rfl⟩
    exact tr_cmp (evE_ii (a := .var 2) (b := .var 3) rfl rfl rfl) (evE_ii (a := .var 1) rfl (evE_lenM (a := .var 5) (enc := fun (r : Nat) => D.int r) rfl lrs) (mul_ok2 (small_le (Nat.le_trans hrl (by decide))))) rfl rfl (cmpR_eq (by decide : 0 ≤ 50) rfl)) ⟨none, none, none, rfl⟩
  rw [hwe] at he
  refine Rets.asg he rfl ?_
  have hr := itE_range2 (Δ := Δ) (n := 182) (a := 1) (b := norm3 L + 1) (e1 := .lit (.int 1)) (e2 := .bin .Add (.var 11) (.lit (.int 1))) (vars := lv zs ss g x4 L (some (.lst (rs.map fun (r : Nat) => .int r))) (some (.lst (ws.map fun i => tup3 i (ilv rs i) (ilv rs' i)))) (some (.lst (((intsFrom 1 (norm3 L).toNat).filter fun i => (norm3 L).fmod i == 0).map .int)))) (σ := [none]) rfl rfl (small_of (by omega)) (by unfold maxLen; omega)
  rw [Int.add_sub_cancel] at hr
  have hl : (intsFrom 1 (norm3 L).toNat).length ≤ maxLen := by rw [intsFrom_len]; unfold maxLen; omega
  exact Rets.ret (evE_cmp (a := .var 14) rfl (evE_compF D.int D.int (fun i => (norm3 L).fmod i == 0) (fun vs => ∃ x, vs = [none, x, some (.int (norm3 L))]) hr rfl hl (by
    rintro i hi vs ⟨x, rfl⟩
    exact ⟨[none, some (.int i), some (.int (norm3 L))], rfl, ⟨_, rfl⟩, tr_cmp (evE_ii (a := .var 2) (b := .var 1) rfl rfl (mod_ok (Int.ne_of_gt (mem_intsFrom.mp hi).1))) (b := .lit (.int 0)) rfl rfl rfl (cmpR_eq (by decide : 0 ≤ 50) rfl), fun _ => rfl⟩) ⟨none, rfl⟩) rfl rfl (cmpR_eq (dep_lst D.int (k := 0) (fun a => Nat.le_refl 0) (by decide) _) (eq_same D.int (fun a => congrArg some (beq_self_eq_true a)) _))) rfl
end Ev
end
section
set_option maxRecDepth 100000
set_option autoImplicit false
set_option linter.all false
set_option maxHeartbeats 400000
namespace Ev
open PySem
noncomputable abbrev D3 (k : Nat) : Dl := lev T3 true false k
theorem onFn_of {o : Option Fn} {g : Fn} {k : Nat} {ds : List D} {r : Option D} (h : o = some g) (e : runP (D3 k) 200 g ds = r) : onFn o (fun f => runP (D3 k) 200 f ds) = r := by subst h; exact e
theorem onMu_of {o : Option Fn} {g : Fn} {k : Nat} {xs ds : List D} (h : o = some g) : onMu o (fun f => runM (D3 k) 200 f xs ds) = runM (D3 k) 200 g xs ds := by subst h; rfl
theorem f3 {k i : Nat} {g : Fn} {ds : List D} {r : Option D} (h : T3fns i = some g) (e : runP (D3 k) 200 g ds = r) : (D3 (k + 1)).fns i ds = r := onFn_of h e
theorem m3 {k i : Nat} {g : Fn} (h : T3muts i = some g) (xs ds : List D) : (D3 (k + 1)).muts i xs ds = runM (D3 k) 200 g xs ds := onMu_of h
theorem hp3 (k : Nat) : HpDl (D3 (k + 3)) := ⟨D3 (k + 2), D3 (k + 1), D3 k, m3 rfl, m3 rfl, m3 rfl, m3 rfl, m3 rfl⟩
theorem com3 (k : Nat) {g : Int} (hg : 0 ≤ g ∧ g < 4) : ComDl (D3 (k + 3)) g where
  hp := hp3 k
  back := fun r p h => f3 rfl (back_ok h)
  name := fun s hs => f3 rfl (nm_ok (Δ' := D3 (k + 1)) rfl rfl (fun _ => f3 rfl rfl) hs hg)
theorem run3 (k : Nat) : RunDl (D3 (k + 1)) where
  turn := fun s => f3 rfl (turned_ok s)
  cross := fun s t h => f3 rfl (cross_ok (geo_ok h).spot t)
theorem bump0_len (rs : List Nat) : (rs.foldl bump []).length = longest rs := by rw [bump_longest]; exact Nat.max_eq_right (Nat.zero_le _)
theorem bump0_le {rs : List Nat} (h : ∀ r ∈ rs, r ≤ 200) : (rs.foldl bump []).length ≤ 10000 := by rw [bump0_len]; exact Nat.le_trans (longest_le h) (by decide)
theorem ilv_eq (qs : List Nat) (j : Nat) : ((0 : Nat) : Int) + (j : Int) * (isum (fun i => ((i / j : Nat) : Int)) 0 [] + rsum (fun i => ((i / j : Nat) : Int)) qs + ((qs.length : Nat) : Int)) = ilv qs j := by
  unfold ilv dsum
  rw [Int.toNat_natCast, show isum (fun i => ((i / j : Nat) : Int)) 0 [] = 0 from rfl, Int.zero_add (rsum _ qs), Int.natCast_zero]
theorem ind3 (k : Nat) {qs : List Nat} (hq : ∀ r ∈ qs, r ≤ 200) {j : Nat} (h1 : 1 ≤ j) (h2 : j ≤ 20000) : (D3 (k + 1)).fns 101 [W3 qs, .int j] = some (.int (ilv qs j)) := by
  have e := indent_ok (Δ := D3 k) (t := leadText qs 0 [32, 9]) (cs := qs.foldl bump []) (tr := ((0 : Nat) : Int)) (n := ((runSum qs + 0 : Nat) : Int)) (nt := ((qs.length : Nat) : Int)) (ts := j) h1 h2 (bump0_le hq)
  rw [isum_runs] at e
  refine f3 rfl (e.trans ?_)
  rw [ilv_eq]
theorem lon3 (k : Nat) {qs : List Nat} (hq : ∀ r ∈ qs, r ≤ 200) : (D3 (k + 1)).fns 100 [W3 qs] = some (.int (max ((longest qs : Int) - 1) ((0 : Nat) : Int))) := by
  have e := longest_ok (Δ := D3 k) (t := leadText qs 0 [32, 9]) (cs := qs.foldl bump []) (tr := ((0 : Nat) : Int)) (n := ((runSum qs + 0 : Nat) : Int)) (nt := ((qs.length : Nat) : Int)) (bump0_le hq)
  rw [bump0_len] at e
  exact f3 rfl e
theorem max_pred (a : Nat) : max ((a : Int) - 1) ((0 : Nat) : Int) = ((a - 1 : Nat) : Int) := by
  rcases Nat.eq_zero_or_pos a with rfl | h
  · rfl
  · rw [Int.natCast_sub h]; exact Int.max_eq_left (Int.sub_nonneg_of_le (Int.ofNat_le.mpr h))
theorem max_cast (a b : Nat) : max (a : Int) (b : Int) = ((max a b : Nat) : Int) := by
  rcases Nat.le_total a b with h | h
  · rw [Nat.max_eq_right h, Int.max_eq_right (Int.ofNat_le.mpr h)]
  · rw [Nat.max_eq_left h, Int.max_eq_left (Int.ofNat_le.mpr h)]
theorem wit_fits {a b : Nat} (ha : a ≤ 201) (hb : b ≤ 201) : ∃ m : Nat, a ≤ m ∧ m ≤ 20000 ∧ max (max ((a : Int) - 1) ((0 : Nat) : Int)) (max ((b : Int) - 1) ((0 : Nat) : Int)) + 1 = m :=
  ⟨max (a - 1) (b - 1) + 1, Nat.le_trans (Nat.le_add_of_sub_le (Nat.le_refl (a - 1))) (Nat.succ_le_succ (Nat.le_max_left ..)), Nat.le_trans (Nat.succ_le_succ (Nat.max_le.mpr ⟨Nat.le_trans (Nat.sub_le ..) ha, Nat.le_trans (Nat.sub_le ..) hb⟩)) (by decide), by rw [max_pred, max_pred]; exact congrArg (· + 1) (max_cast ..)⟩
theorem wit3 (k : Nat) (rs rs' : List Nat) (h : ∀ r ∈ rs, r ≤ 200) (h' : ∀ r ∈ rs', r ≤ 200) : ∃ m : Nat, longest rs ≤ m ∧ m ≤ 20000 ∧ (D3 (k + 2)).fns 102 [W3 rs, W3 rs'] = some (.lst (((intsFrom 1 m).filter (fun i => ilv rs i != ilv rs' i)).map fun i => tup3 i (ilv rs i) (ilv rs' i))) := by
  obtain ⟨m, m1, m2, m3⟩ := wit_fits (longest_le h) (longest_le h')
  refine ⟨m, m1, m2, f3 rfl ?_⟩
  refine witness_ok (f := ilv rs) (g := ilv rs') (W3_pure rs) (W3_pure rs') (lon3 k h) (lon3 k h') m3 m2 fun i h1 h2 => ?_
  obtain ⟨j, rfl⟩ : ∃ j : Nat, i = j := ⟨i.toNat, by omega⟩
  exact ⟨ind3 k h (by omega) (by omega), ind3 k h' (by omega) (by omega)⟩
theorem lead3 (k : Nat) (rs : List Nat) (h : ∀ r ∈ rs, r ≤ 200) (hl : rs.length ≤ 20) : (D3 (k + 2)).fns 8 [.lst (rs.map fun (r : Nat) => .int r)] = some (W3 rs) := by
  refine f3 rfl (lead_ok rfl h hl ?_ (W3_pure rs) (fun σ => rfl))
  refine (show _ = runI (D3 k) 200 finit (.str (leadText rs 0 [32, 9])) from rfl).trans (init_ok (fun r hr => Nat.le_trans (h r hr) (by decide)) ?_ ?_)
  · rw [lead_text, List.all_append, runText_ascii]; rfl
  · rw [lead_text, List.length_append]
    exact Nat.le_trans (Nat.add_le_add_right (Nat.le_trans (runText_len rs 200 h) (Nat.mul_le_mul_right 201 hl)) 3) (by decide)
theorem lawDl3 : LawDl (D3 6) where
  run := run3 5
  spot := fun c => ⟨(code_ok 3 c).1, f3 rfl (code_ok 3 c).2⟩
  name := fun s g hs hg => (com3 3 hg).name s hs
  back := (com3 3 (g := 0) (by decide)).back
  common := fun g ss hg h2 h3 hm => by
    obtain ⟨s, a, b, c⟩ := common_ok (com3 2 hg) h2 h3 hm
    exact ⟨s, a, b, f3 rfl c⟩
  runs := fun ss h3 hm => f3 rfl (runs_ok (run3 4) h3 hm)
  lead := fun rs h hl => lead3 4 rs h hl
  wit := fun rs rs' h h' => wit3 4 rs rs' h h'
theorem plain3 : Plain3 := fun zs hz => by
  obtain ⟨codes, c2, c3, e1⟩ := first3 (Δ := lev T3 false false 6) hz
  obtain ⟨v, s, e2⟩ := law3a lawDl3 hz c2 c3 fun ss g x4 L l3 hm hL hI => law3b lawDl3 l3 hm hL hI
  exact ⟨199, 200, _, _, v, s, e1, e2⟩
end Ev
end
section
set_option maxRecDepth 100000
set_option autoImplicit false
set_option linter.all false
set_option maxHeartbeats 8000000
namespace Ev
open PySem PySem.W PySem.Calls PyProof.Rows PySem.SeqAt
theorem startOf {c : Cx} {s : Shared} {mg mb : Str → Option Value} {loose : List Str} {p : Program} {mean : ExcName → Option Value} (hB : c.B = s.heap) (hS : c.S0 = s) (KX : c.K.In s.heap) (T : Top p loose mean mg mb s.heap) : Start c where
  Z := ⟨by rw [hB]; exact KX, ⟨mg, by rw [hB]; exact T.g⟩, ⟨mb, by rw [hB]; exact T.b, T.builtins⟩, by rw [hB]; exact T.nolimit⟩
  nb := fun h e => by
    obtain ⟨mc, hmc, _⟩ := T.nodigits
    subst e
    rw [hB]
    exact ⟨mc, hmc, ns_none KX hmc h⟩
theorem finish3 {w : World} {K : Frag} {s : Shared} {mg mb : Str → Option Value} {loose : List Str} {p : Program} {mean : ExcName → Option Value} {l : Addr} {vs : List Value} {zs : List Int} {fa : Addr} {Q : Value → Shared → Prop} {Ex : Value → Shared → Prop}
    (plain : Plain3) (KX : K.In s.heap) (T : Top p loose mean mg mb s.heap) (H : TblChk C3 K T3 118) (L : lawAt C3 K flaw 1 "law" = true) (hmg : mg ("law" : Str) = some (.ref fa)) (hL : s.heap.IsList l vs.toArray) (hI : IntsAre vs zs) (hlen : zs.length ≤ 63)
    (hQ : ∀ s', (∀ b o, s.heap.get? b = some o → s'.heap.get? b = some o) → s'.os = s.os → s'.gens = s.gens → Q (.bool true) s') : wpAny (model PySem.Challenge.rw_pg0205_03.row.prog w) callerA (call (.ref fa) [.ref l]) Q Ex s :=
  walkOf (c := { prog := PySem.Challenge.rw_pg0205_03.row.prog, w := w, K := K, B := s.heap, S0 := s, C := 118, pos := false }) (T := T3) (C := C3) (fn := flaw) (i := 1) (e := e3) (rb := r3) (k := 6) (hot := true) (srt := false) H L
    { S := startOf rfl rfl KX T, S2 := startOf rfl rfl KX T, hB := rfl, hS := rfl, hp := rfl, KX := KX, g := T.g } (fun h => falseE h) (fun h => falseE h) rfl rfl (by decide) (plain zs hlen) hmg hL hI hQ
noncomputable def top3.tw7907463631927891123 : Nat := 0
noncomputable def top3.tw15189287955785208777 : Nat := 0
noncomputable def top3.tw6096763001182858566 : Nat := 0
noncomputable def top3.tw16149031413403472499 : Nat := 0
noncomputable def top3.tw8093568833254486494 : Nat := 0
noncomputable def top3.tw148892890953500594 : Nat := 0
noncomputable def top3.tw4235822907294499788 : Nat := 0
noncomputable def top3.tw4603827626704147234 : Nat := 0
noncomputable def top3.tw10395230267943517864 : Nat := 0
noncomputable def top3.tw12779306098992862697 : Nat := 0
noncomputable def top3.tw8025048404445590622 : Nat := 0
noncomputable def top3.tw11596101188067325290 : Nat := 0
noncomputable def top3.tw4892266666987719098 : Nat := 0
noncomputable def top3.tw14710830880357925617 : Nat := 0
noncomputable def top3.tw12410785316317752248 : Nat := 0
noncomputable def top3.tw18124768032318105025 : Nat := 0
noncomputable def top3.tw12292543809031598212 : Nat := 0
noncomputable def top3.tw13993653650762076021 : Nat := 0
noncomputable def top3.tw2225877381810774322 : Nat := 0
noncomputable def top3.tw9774206396584156150 : Nat := 0
noncomputable def top3.tw9828062787146532134 : Nat := 0
noncomputable def top3.tw13324141901545495772 : Nat := 0
noncomputable def top3.tw12104007145303038209 : Nat := 0
noncomputable def top3.tw895298230881213603 : Nat := 0
noncomputable def top3.tw6821197910978432843 : Nat := 0
noncomputable def top3.tw481017782234180011 : Nat := 0
noncomputable def top3.tw6757516755698138625 : Nat := 0
noncomputable def top3.tw8944205225466760376 : Nat := 0
noncomputable def top3.tw612194755726885514 : Nat := 0
noncomputable def top3.tw12805255604537496817 : Nat := 0
noncomputable def top3.tw14256106105485549344 : Nat := 0
noncomputable def top3.tw14587953337441993839 : Nat := 0
noncomputable def top3.tw6508484970433155987 : Nat := 0
noncomputable def top3.tw4091034998973045363 : Nat := 0
noncomputable def top3.tw7109062760138621369 : Nat := 0
noncomputable def top3.tw5964446920977631447 : Nat := 0
noncomputable def top3.tw4321396327265114420 : Nat := 0
noncomputable def top3.tw6348018799824127793 : Nat := 0
noncomputable def top3.tw8438732815578965066 : Nat := 0
noncomputable def top3.tw10786022795840177398 : Nat := 0
noncomputable def top3.tw12829545682853157544 : Nat := 0
noncomputable def top3.tw5426854274828931183 : Nat := 0
noncomputable def top3.tw10262424882543083388 : Nat := 0
noncomputable def top3.tw15167904523336287903 : Nat := 0
noncomputable def top3.tw9036811283001455751 : Nat := 0
noncomputable def top3.tw16948169706647566622 : Nat := 0
noncomputable def top3.tw16520116296242010129 : Nat := 0
noncomputable def top3.tw8477173439526460313 : Nat := 0
noncomputable def top3.tw12923831638450002603 : Nat := 0
noncomputable def top3.tw10267388102304761092 : Nat := 0
noncomputable def top3.tw11219679252047701705 : Nat := 0
noncomputable def top3.tw3511155419560353240 : Nat := 0
noncomputable def top3.tw3715690311576227865 : Nat := 0
noncomputable def top3.tw13948016650690336211 : Nat := 0
noncomputable def top3.tw9966025662675937240 : Nat := 0
noncomputable def top3.tw5017269687524798824 : Nat := 0
set_option Elab.async true in
theorem top3 : PySem.Challenge.rw_pg0205_03.Holds := by
  w_on
  o_law
  k_head
  (case hw => w_witness2)
  k_fill
  intro w s₀ s₁ mg mb G Y fa o pm cd doc dV kV ho hd hcd hD hmg hg args vals as hpre hlay hrd hwl hlo
  have KX := kIn_of Y
  refine Ground.open G ?_
  intro T B D TE TW
  clear B D TE TW ho hd hcd hD
  wrow_args hpre hlay hrd hwl hlo
  rename_i hcond _
  refine finish3 plain3 KX T ⟨by kernel_rfl, by kernel_rfl, by kernel_rfl, by kernel_rfl, by kernel_rfl⟩ (by kernel_rfl) hmg (by assumption) (by assumption) (by omega) fun s' hk hos hgen => GoodW.toG ⟨.inl ⟨.bool true, ofPy (.bool true), [], rfl, ?_, readsW_of_reads (Reads.bool true), ?_, ?_⟩, hk, hos, hgen.trans hg⟩
  · intro cls; rfl
  · first | rfl | kernel_rfl
  · exact fun _ => ⟨List.nodup_nil, fun a h => by cases h⟩
end Ev
end
theorem PySem.Challenge.cw_pg0205_03_holds : PySem.Challenge.rw_pg0205_03.Holds :=
  Ev.top3
