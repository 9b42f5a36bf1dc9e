import PyProof.Rows.All
import Wide.All
import OpenK.AllK
import Wide.FinOn
import KE.KSortTup
import Flt.RightMore
import PySem.Challenge.RW_pg0205_01
set_option Elab.async false
set_option maxRecDepth 100000
set_option autoImplicit false
set_option tactic.hygienic false
set_option genSizeOf false
set_option genInjectivity false
set_option linter.all false
set_option maxHeartbeats 4000000
set_option exponentiation.threshold 3000
section
namespace Ev
open PySem PySem.W PySem.Calls PyProof.Rows
theorem ai {P : Prop} (h : false = true) : P := (Bool.false_ne_true h).elim
theorem au {α : Type} {a : α} {P : Prop} (h : none = some a) : P := nomatch h
inductive D where
 | none
 | bool (b : Bool)
 | int (i : Int)
 | flt (x : UInt64)
 | str (s : List Nat)
 | tup (xs : List D)
 | lst (xs : List D)
 | inst (as : List (Nat × D))
 | loc (l : Nat)
inductive cN where
 | lst (xs : List D)
 | inst (as : List (Nat × D))
noncomputable abbrev ae := List (Option cN)
noncomputable abbrev aT := Addr → Option Obj
structure FM where
 o : aT
 t : Tok → Option UInt64
structure aG (F F' : FM) : Prop where
 o : ∀ a o, F.o a = some o → F'.o a = some o
 t : ∀ t x, F.t t = some x → F'.t t = some x
theorem aG.rfl {F : FM} : aG F F := ⟨fun ξ ξ h => h, fun ξ ξ h => h⟩
theorem aG.trans {F G H : FM} (a : aG F G) (b : aG G H) : aG F H := ⟨fun x o h => b.o x o (a.o x o h), fun x o h => b.t x o (a.t x o h)⟩
noncomputable def attrName : Nat → Str := @fun aa => match aa with
 | 0 => Str.ofString "raw"
 | 1 => Str.ofString "n"
 | 2 => Str.ofString "nt"
 | 3 => Str.ofString "norm"
 | υ1 => Str.ofString "is_simple"
mutual
inductive Rv (C : Addr) (F : FM) (ρ : List (List Addr)) : Value → D → Prop
 | none : Rv C F ρ .none .none
 | bool (b : Bool) : Rv C F ρ (.bool b) (.bool b)
 | int (i : Int) (t : Tok) : Rv C F ρ (.int i t) (.int i)
 | flt {x : UInt64} {t : Tok} (ht : F.t t = some x) : Rv C F ρ (.float x t) (.flt x)
 | str (xs : List Nat) (t : Tok) : Rv C F ρ (.str ⟨xs.toArray⟩ t) (.str xs)
 | tup {a : Addr} {o : Obj} {vs : List Value} {n : Nat} {xs : List D} (ho : F.o a = some o) (hc : o.cls = .type "tuple") (hd : o.data = .seq vs.toArray n) (hs : aC C F ρ vs xs) : Rv C F ρ (.ref a) (.tup xs)
 | lst {a : Addr} {o : Obj} {vs : List Value} {n : Nat} {xs : List D} (ho : F.o a = some o) (hc : o.cls = .type "list") (hd : o.data = .seq vs.toArray n) (hs : aC C F ρ vs xs) : Rv C F ρ (.ref a) (.lst xs)
 | inst {a d : Addr} {es : List DictEntry} {n : Nat} {as : List (Nat × D)} (ho : F.o a = some (instObj C d)) (hd : F.o d = some (dictOf es n)) (hs : Ra C F ρ es as) : Rv C F ρ (.ref a) (.inst as)
 | loc {a : Addr} {l : Nat} (hl : ∃ r, ρ[l]? = some (a :: r)) : Rv C F ρ (.ref a) (.loc l)
inductive aC (C : Addr) (F : FM) (ρ : List (List Addr)) : List Value → List D → Prop
 | nil : aC C F ρ [] []
 | cons {v : Value} {X : D} {vs : List Value} {xs : List D} (h : Rv C F ρ v X) (hs : aC C F ρ vs xs) : aC C F ρ (v :: vs) (X :: xs)
inductive Ra (C : Addr) (F : FM) (ρ : List (List Addr)) : List DictEntry → List (Nat × D) → Prop
 | nil : Ra C F ρ [] []
 | cons {h : Int} {t : Tok} {v : Value} {k : Nat} {X : D} {es : List DictEntry} {as : List (Nat × D)} (hk : k < 5) (hv : Rv C F ρ v X) (hs : Ra C F ρ es as) : Ra C F ρ (⟨h, .str (attrName k) t, v⟩ :: es) ((k, X) :: as)
end
theorem qC {ρ ao : List (List Addr)} (h : ρ <+: ao) {l : Nat} {r : List Addr} (e : ρ[l]? = some r) : ao[l]? = some r := by
 obtain ⟨t, rfl⟩ := h
 rw [List.getElem?_append_left (List.getElem?_eq_some_iff.mp e).1]; exact e
section
variable {C : Addr} {F F' : FM} {ρ ao : List (List Addr)}
theorem Rv.mono (hF : aG F F') (e9 : ρ <+: ao) {v : Value} {x : D} (h : Rv C F ρ v x) : Rv C F' ao v x :=
 Rv.rec (motive_1 := fun v x ξ => Rv C F' ao v x) (motive_2 := fun v x ξ => aC C F' ao v x) (motive_3 := fun v x ξ => Ra C F' ao v x)
  .none .bool .int (fun ht => .flt (hF.t _ _ ht)) .str (fun ho hc hd ξ r => .tup (hF.o _ _ ho) hc hd r) (fun ho hc hd ξ r => .lst (hF.o _ _ ho) hc hd r) (fun ho hd ξ r => .inst (hF.o _ _ ho) (hF.o _ _ hd) r)
  (fun ⟨r, hl⟩ => .loc ⟨r, qC e9 hl⟩) .nil (fun ξ ξ r q => .cons r q) .nil (fun hk ξ ξ r q => .cons hk r q) h
theorem aC.mono (hF : aG F F') (e9 : ρ <+: ao) {v : List Value} {x : List D} (h : aC C F ρ v x) : aC C F' ao v x :=
 aC.rec (motive_1 := fun v x ξ => Rv C F' ao v x) (motive_2 := fun v x ξ => aC C F' ao v x) (motive_3 := fun v x ξ => Ra C F' ao v x)
  .none .bool .int (fun ht => .flt (hF.t _ _ ht)) .str (fun ho hc hd ξ r => .tup (hF.o _ _ ho) hc hd r) (fun ho hc hd ξ r => .lst (hF.o _ _ ho) hc hd r) (fun ho hd ξ r => .inst (hF.o _ _ ho) (hF.o _ _ hd) r)
  (fun ⟨r, hl⟩ => .loc ⟨r, qC e9 hl⟩) .nil (fun ξ ξ r q => .cons r q) .nil (fun hk ξ ξ r q => .cons hk r q) h
theorem Ra.mono (hF : aG F F') (e9 : ρ <+: ao) {v : List DictEntry} {x : List (Nat × D)} (h : Ra C F ρ v x) : Ra C F' ao v x :=
 Ra.rec (motive_1 := fun v x ξ => Rv C F' ao v x) (motive_2 := fun v x ξ => aC C F' ao v x) (motive_3 := fun v x ξ => Ra C F' ao v x)
  .none .bool .int (fun ht => .flt (hF.t _ _ ht)) .str (fun ho hc hd ξ r => .tup (hF.o _ _ ho) hc hd r) (fun ho hc hd ξ r => .lst (hF.o _ _ ho) hc hd r) (fun ho hd ξ r => .inst (hF.o _ _ ho) (hF.o _ _ hd) r)
  (fun ⟨r, hl⟩ => .loc ⟨r, qC e9 hl⟩) .nil (fun ξ ξ r q => .cons r q) .nil (fun hk ξ ξ r q => .cons hk r q) h
noncomputable def Hr (C : Addr) (F : FM) (ρ : List (List Addr)) (v : Value) : D → Prop := @fun aa => match aa with
 | .none => v = .none
 | .bool b => v = .bool b
 | .int i => ∃ t, v = .int i t
 | .flt x => ∃ t, v = .float x t ∧ F.t t = some x
 | .str xs => ∃ t, v = .str ⟨xs.toArray⟩ t
 | .tup xs => ∃ a o vs n, v = .ref a ∧ F.o a = some o ∧ o.cls = .type "tuple" ∧ o.data = .seq (List.toArray vs) n ∧ aC C F ρ vs xs
 | .lst xs => ∃ a o vs n, v = .ref a ∧ F.o a = some o ∧ o.cls = .type "list" ∧ o.data = .seq (List.toArray vs) n ∧ aC C F ρ vs xs
 | .inst as => ∃ a d es n, v = .ref a ∧ F.o a = some (instObj C d) ∧ F.o d = some (dictOf es n) ∧ Ra C F ρ es as
 | .loc l => ∃ a r, v = .ref a ∧ ρ[l]? = some (a :: r)
theorem Rv.inv {v : Value} {x : D} (h : Rv C F ρ v x) : Hr C F ρ v x := by
 cases h with
 | none => exact rfl
 | bool b => exact rfl
 | int i t => exact ⟨t, rfl⟩
 | flt ht => exact ⟨_, rfl, ht⟩
 | str xs t => exact ⟨t, rfl⟩
 | tup ho hc hd hs => exact ⟨_, _, _, _, rfl, ho, hc, hd, hs⟩
 | lst ho hc hd hs => exact ⟨_, _, _, _, rfl, ho, hc, hd, hs⟩
 | inst ho hd hs => exact ⟨_, _, _, _, rfl, ho, hd, hs⟩
 | loc hl => exact ⟨_, _, rfl, hl.choose_spec⟩
noncomputable def Hs (C : Addr) (F : FM) (ρ : List (List Addr)) (vs : List Value) : List D → Prop := @fun aa => match aa with
 | [] => vs = []
 | x :: xs => ∃ v us, vs = v :: us ∧ Rv C F ρ v x ∧ aC C F ρ us xs
theorem aC.inv {vs : List Value} {xs : List D} (h : aC C F ρ vs xs) : Hs C F ρ vs xs := by
 cases h with
 | nil => exact rfl
 | cons h hs => exact ⟨_, _, rfl, h, hs⟩
noncomputable def Hp (C : Addr) (F : FM) (ρ : List (List Addr)) (es : List DictEntry) : List (Nat × D) → Prop := @fun aa => match aa with
 | [] => es = []
 | kx :: as => ∃ h t v fs, es = ⟨h, .str (attrName kx.1) t, v⟩ :: fs ∧ kx.1 < 5 ∧ Rv C F ρ v kx.2 ∧ Ra C F ρ fs as
theorem Ra.inv {es : List DictEntry} {as : List (Nat × D)} (h : Ra C F ρ es as) : Hp C F ρ es as := by
 cases h with
 | nil => exact rfl
 | cons hk hv hs => exact ⟨_, _, _, _, rfl, hk, hv, hs⟩
end
/- no loc inside -/
mutual
noncomputable def D.pure : D → Bool := @fun aa => match aa with
 | .loc υ1 => false
 | .tup xs => D.aL xs
 | .lst xs => D.aL xs
 | .inst as => D.bF as
 | υ1 => true
noncomputable def D.aL : List D → Bool := @fun aa => match aa with
 | [] => true
 | x :: xs => D.pure x && D.aL xs
noncomputable def D.bF : List (Nat × D) → Bool := @fun aa => match aa with
 | [] => true
 | (υ1, x) :: xs => D.pure x && D.bF xs
end
section
variable {C : Addr} {F : FM} {ρ ao : List (List Addr)}
theorem aj {a b : Bool} (h : (a && b) = true) : a = true ∧ b = true := Bool.and_eq_true_iff.mp h
theorem Rv.toPure {v : Value} {x : D} (h : Rv C F ρ v x) : x.pure = true → Rv C F ao v x :=
 Rv.rec (motive_1 := fun v x ξ => x.pure = true → Rv C F ao v x) (motive_2 := fun v x ξ => D.aL x = true → aC C F ao v x) (motive_3 := fun v x ξ => D.bF x = true → Ra C F ao v x)
  (fun ξ => .none) (fun b ξ => .bool b) (fun i t ξ => .int i t) (fun ht ξ => .flt ht) (fun xs t ξ => .str xs t) (fun ho hc hd ξ r e => .tup ho hc hd (r e)) (fun ho hc hd ξ r e => .lst ho hc hd (r e)) (fun ho hd ξ r e => .inst ho hd (r e))
  (fun ξ e => ai e) (fun ξ => .nil) (fun ξ ξ r q e => .cons (r (aj e).1) (q (aj e).2)) (fun ξ => .nil) (fun hk ξ ξ r q e => .cons hk (r (aj e).1) (q (aj e).2)) h
theorem aC.toPure {v : List Value} {x : List D} (h : aC C F ρ v x) : D.aL x = true → aC C F ao v x :=
 aC.rec (motive_1 := fun v x ξ => x.pure = true → Rv C F ao v x) (motive_2 := fun v x ξ => D.aL x = true → aC C F ao v x) (motive_3 := fun v x ξ => D.bF x = true → Ra C F ao v x)
  (fun ξ => .none) (fun b ξ => .bool b) (fun i t ξ => .int i t) (fun ht ξ => .flt ht) (fun xs t ξ => .str xs t) (fun ho hc hd ξ r e => .tup ho hc hd (r e)) (fun ho hc hd ξ r e => .lst ho hc hd (r e)) (fun ho hd ξ r e => .inst ho hd (r e))
  (fun ξ e => ai e) (fun ξ => .nil) (fun ξ ξ r q e => .cons (r (aj e).1) (q (aj e).2)) (fun ξ => .nil) (fun hk ξ ξ r q e => .cons hk (r (aj e).1) (q (aj e).2)) h
theorem Ra.toPure {v : List DictEntry} {x : List (Nat × D)} (h : Ra C F ρ v x) : D.bF x = true → Ra C F ao v x :=
 Ra.rec (motive_1 := fun v x ξ => x.pure = true → Rv C F ao v x) (motive_2 := fun v x ξ => D.aL x = true → aC C F ao v x) (motive_3 := fun v x ξ => D.bF x = true → Ra C F ao v x)
  (fun ξ => .none) (fun b ξ => .bool b) (fun i t ξ => .int i t) (fun ht ξ => .flt ht) (fun xs t ξ => .str xs t) (fun ho hc hd ξ r e => .tup ho hc hd (r e)) (fun ho hc hd ξ r e => .lst ho hc hd (r e)) (fun ho hd ξ r e => .inst ho hd (r e))
  (fun ξ e => ai e) (fun ξ => .nil) (fun ξ ξ r q e => .cons (r (aj e).1) (q (aj e).2)) (fun ξ => .nil) (fun hk ξ ξ r q e => .cons hk (r (aj e).1) (q (aj e).2)) h
theorem aC.ind {P : List Value → List D → Prop} (h0 : P [] []) (h1 : ∀ {v X vs xs}, Rv C F ρ v X → aC C F ρ vs xs → P vs xs → P (v :: vs) (X :: xs)) : ∀ {vs : List Value} {xs : List D}, aC C F ρ vs xs → P vs xs := @fun vs aa => @(match aa with
 | [] => @fun h => by obtain rfl := (h.inv : vs = []); exact h0
 | x :: xs => @fun h => by obtain ⟨v, us, rfl, h2, h3⟩ := (h.inv : ∃ v us, vs = v :: us ∧ Rv C F ρ v x ∧ aC C F ρ us xs); exact h1 h2 h3 (aC.ind h0 h1 h3))
theorem aC.length {vs : List Value} {xs : List D} (h : aC C F ρ vs xs) : vs.length = xs.length := aC.ind (P := fun vs xs => vs.length = xs.length) rfl (fun ξ ξ ih => congrArg (· + 1) ih) h
theorem aC.get {vs : List Value} {xs : List D} {i : Nat} {x : D} (h : aC C F ρ vs xs) : xs[i]? = some x → ∃ v, vs[i]? = some v ∧ Rv C F ρ v x :=
 aC.ind (P := fun vs xs => ∀ i, xs[i]? = some x → ∃ v, vs[i]? = some v ∧ Rv C F ρ v x) (fun i e => by cases i <;> (first | exact au e | exact ai e | exact nomatch e)) (fun h ξ ih i e => match i, e with
  | 0, e => ⟨_, rfl, (Option.some.inj e) ▸ h⟩
  | i + 1, e => ih i e) h i
theorem aC.append {vs ws : List Value} {xs ys : List D} (h : aC C F ρ vs xs) (h' : aC C F ρ ws ys) : aC C F ρ (vs ++ ws) (xs ++ ys) := aC.ind (P := fun vs xs => aC C F ρ (vs ++ ws) (xs ++ ys)) h' (fun h ξ ih => .cons h ih) h
theorem aC.set {vs : List Value} {xs : List D} {v : Value} {x : D} (i : Nat) (h : aC C F ρ vs xs) (hv : Rv C F ρ v x) : aC C F ρ (vs.set i v) (xs.set i x) :=
 aC.ind (P := fun vs xs => ∀ i, aC C F ρ (vs.set i v) (xs.set i x)) (fun ξ => .nil) (fun h hs ih i => match i with
  | 0 => .cons hv hs
  | i + 1 => .cons h (ih i)) h i
theorem aC.take {vs : List Value} {xs : List D} (i : Nat) (h : aC C F ρ vs xs) : aC C F ρ (vs.take i) (xs.take i) :=
 aC.ind (P := fun vs xs => ∀ i, aC C F ρ (vs.take i) (xs.take i)) (fun i => match i with | 0 => .nil | _ + 1 => .nil) (fun h hs ih i => match i with
  | 0 => .nil
  | i + 1 => .cons h (ih i)) h i
end
theorem aO {α β : Type} {o : Option α} {f : α → Option β} {b : β} {P : Prop} (h : o.bind f = some b) (k : ∀ a, o = some a → f a = some b → P) : P := by
 cases o with
 | none => (first | exact au h | exact ai h | exact nomatch h)
 | some a => exact k a rfl h
theorem bT {α β : Type} {o : Option α} {f : α → β} {b : β} {P : Prop} (h : o.map f = some b) (k : ∀ a, o = some a → f a = b → P) : P := by
 cases o with
 | none => (first | exact au h | exact ai h | exact nomatch h)
 | some a => exact k a rfl (Option.some.inj h)
theorem bx {α : Type} {p : Prop} [Decidable p] {a : Option α} {r : α} (h : (if p then a else none) = some r) : p ∧ a = some r := by
 by_cases q : p
 ·rw [if_pos q] at h; exact ⟨q, h⟩
 ·rw [if_neg q] at h; (first | exact au h | exact ai h | exact nomatch h)
theorem gT {α : Type} {p : Prop} [Decidable p] {a : Option α} {r : α} (h : (if p then none else a) = some r) : ¬ p ∧ a = some r := by
 by_cases q : p
 ·rw [if_pos q] at h; (first | exact au h | exact ai h | exact nomatch h)
 ·rw [if_neg q] at h; exact ⟨q, h⟩
theorem cg {α β : Type} {a a' : α} {b b' : β} (h : some (a, b) = some (a', b')) : a = a' ∧ b = b' := ⟨congrArg Prod.fst (Option.some.inj h), congrArg Prod.snd (Option.some.inj h)⟩
inductive Tag where
 | fr (i : Nat)
 | loc (l : Nat)
noncomputable def bE (fa : List (Option Addr)) (ρ : List (List Addr)) : Tag → List Addr := @fun aa => match aa with
 | .fr i => (fa[i]?.join).toList
 | .loc l => (ρ[l]?).getD []
noncomputable def cK (σ : ae) : Tag → Prop := @fun aa => match aa with
 | .fr υ1 => True
 | .loc l => ∃ m, σ[l]? = some (some m)
end Ev
end
section
namespace Ev
open PySem PySem.W PySem.Calls PyProof.Rows
structure Cx where
 prog : Program
 w : World
 K : Frag
 B : Heap
 S0 : Shared
 C : Addr
 pos : Bool
inductive eJ (C : Addr) (F : FM) (ρ : List (List Addr)) (h : Heap) : List Addr → cN → Prop
 | lst {a : Addr} {vs : List Value} {n : Nat} {xs : List D} (ho : h.get? a = some { cls := .type "list", data := .seq vs.toArray n }) (hs : aC C F ρ vs xs) : eJ C F ρ h [a] (.lst xs)
 | inst {a d : Addr} {es : List DictEntry} {n : Nat} {as : List (Nat × D)} (ho : h.get? a = some (instObj C d)) (hd : h.get? d = some (dictOf es n)) (hs : Ra C F ρ es as) : eJ C F ρ h [a, d] (.inst as)
theorem eJ.mono {C : Addr} {F F' : FM} {ρ ao : List (List Addr)} {h h' : Heap} {r : List Addr} {m : cN} (x : eJ C F ρ h r m) (hF : aG F F') (e9 : ρ <+: ao) (hh : ∀ a ∈ r, ∀ o, h.get? a = some o → h'.get? a = some o) : eJ C F' ao h' r m := by
 cases x with
 | lst ho hs => exact .lst (hh _ (by simp) _ ho) (hs.mono hF e9)
 | inst ho hd hs => exact .inst (hh _ (by simp) _ ho) (hh _ (by simp) _ hd) (hs.mono hF e9)
structure G (c : Cx) (F : FM) (X : aT) (fa : List (Option Addr)) (ρ : List (List Addr)) (σ : ae) (s : Shared) : Prop where
 f : ∀ a o, F.o a = some o → s.heap.get? a = some o
 x : ∀ a o, X a = some o → s.heap.get? a = some o
 fx : ∀ a o, F.o a = some o → X a = none
 base : ∀ a o, c.B.get? a = some o → F.o a = some o
 apart : ∀ t t' a, cK σ t → cK σ t' → a ∈ bE fa ρ t → a ∈ bE fa ρ t' → t = t'
 own : ∀ t a, cK σ t → a ∈ bE fa ρ t → F.o a = none ∧ X a = none ∧ ∃ o, s.heap.get? a = some o
 objs : ∀ (l : Nat) (m : cN), σ[l]? = some (some m) → ∃ r, ρ[l]? = some r ∧ eJ c.C F ρ s.heap r m
 len : ρ.length = σ.length
 gens : s.gens = c.S0.gens
 bI : c.pos = true → 0 < s.toks
 ft : ∀ t x, F.t t = some x → 0 < t ∧ t < s.toks
 os : s.os = c.S0.os
section
variable {c : Cx} {F F' : FM} {X X' : aT} {fa bS : List (Option Addr)} {ρ ao : List (List Addr)} {σ σ' : ae} {s s' : Shared}
theorem f9 {l : Nat} {r : List Addr} (h : ρ[l]? = some r) : bE fa ρ (.loc l) = r := by simp [bE, h]
theorem G.to (g : G c F X fa ρ σ s) (h : ∀ b o, (F.o b = some o ∨ X b = some o ∨ ∃ t, cK σ t ∧ b ∈ bE fa ρ t) → s.heap.get? b = some o → s'.heap.get? b = some o)
  (hg : s'.gens = s.gens) (ho : s'.os = s.os) (ht : s.toks ≤ s'.toks) : G c F X fa ρ σ s' where
 bI := fun h => Nat.lt_of_lt_of_le (g.bI h) ht
 ft := fun t x e => ⟨(g.ft t x e).1, Nat.lt_of_lt_of_le (g.ft t x e).2 ht⟩
 f := fun a o e => h a o (.inl e) (g.f a o e)
 x := fun a o e => h a o (.inr (.inl e)) (g.x a o e)
 fx := g.fx
 base := g.base
 apart := g.apart
 own := fun t a l m => let ⟨h1, h2, o, h3⟩ := g.own t a l m; ⟨h1, h2, o, h a o (.inr (.inr ⟨t, l, m⟩)) h3⟩
 objs := fun l m e => let ⟨r, h1, h2⟩ := g.objs l m e; ⟨r, h1, h2.mono aG.rfl (List.prefix_refl _) fun a ha o ho => h a o (.inr (.inr ⟨.loc l, ⟨m, e⟩, by rw [f9 h1]; exact ha⟩)) ho⟩
 len := g.len
 gens := hg.trans g.gens
 os := ho.trans g.os
theorem G.keeps (g : G c F X fa ρ σ s) (h : ∀ b o, s.heap.get? b = some o → s'.heap.get? b = some o) (hg : s'.gens = s.gens) (ho : s'.os = s.os) (ht : s.toks ≤ s'.toks) : G c F X fa ρ σ s' :=
 g.to (fun b o ξ e => h b o e) hg ho ht
theorem G.fresh (g : G c F X fa ρ σ s) {a : Addr} (h : s.heap.get? a = none) : F.o a = none ∧ X a = none ∧ ∀ t, cK σ t → a ∉ bE fa ρ t := by
 refine ⟨?_, ?_, fun t l m => ?_⟩
 ·cases e : F.o a with | none => rfl | some o => rw [g.f a o e] at h; cases h
 ·cases e : X a with | none => rfl | some o => rw [g.x a o e] at h; cases h
 ·obtain ⟨_, _, o, e⟩ := g.own t a l m; rw [e] at h; cases h
theorem none_at_size (h : Heap) : h.get? h.objs.size = none := by
 cases e : h.get? h.objs.size with
 | none => rfl
 | some o => exact absurd (Heap.lt_size e) (Nat.lt_irrefl _)
noncomputable def upd (F : aT) (a : Addr) (o : Obj) : aT := fun b => if b = a then some o else F b
theorem gH {F : aT} {a : Addr} {o : Obj} : upd F a o a = some o := by simp [upd]
theorem lj {F : aT} {a b : Addr} {o : Obj} (h : b ≠ a) : upd F a o b = F b := by simp [upd, h]
theorem QK {F : aT} {a : Addr} {o : Obj} (h : F a = none) : ∀ b o', F b = some o' → upd F a o b = some o' := fun b o' e => by
 unfold upd; split
 ·rename_i q; subst q; rw [h] at e; cases e
 ·exact e
noncomputable def jt (F : FM) (a : Addr) (o : Obj) : FM := { F with o := upd F.o a o }
theorem g9 {F : FM} {a : Addr} {o : Obj} (h : F.o a = none) : aG F (jt F a o) := ⟨QK h, fun ξ ξ e => e⟩
theorem G.gn (g : G c F X fa ρ σ s) {a : Addr} {o : Obj} (ho : s.heap.get? a = some o) (hF : F.o a = none) (hX : X a = none) (hO : ∀ t, cK σ t → a ∉ bE fa ρ t) : G c (jt F a o) X fa ρ σ s where
 bI := g.bI
 ft := g.ft
 f := fun b o' e => by
  simp only [jt] at e; unfold upd at e; split at e
  ·rename_i q; cases e; rw [q]; exact ho
  ·exact g.f b o' e
 x := g.x
 fx := fun b o' e => by
  simp only [jt] at e; unfold upd at e; split at e
  ·rename_i q; rw [q]; exact hX
  ·exact g.fx b o' e
 base := fun b o' e => (g9 hF).o b o' (g.base b o' e)
 apart := g.apart
 own := fun t b l m => by
  obtain ⟨h1, h2, h3⟩ := g.own t b l m
  refine ⟨?_, h2, h3⟩
  show upd F.o a o b = none
  rw [lj]; exact h1
  intro e; exact hO t l (e ▸ m)
 objs := fun l m e => let ⟨r, h1, h2⟩ := g.objs l m e; ⟨r, h1, h2.mono (g9 hF) (List.prefix_refl _) fun ξ ξ ξ h => h⟩
 len := g.len
 gens := g.gens
 os := g.os
theorem G.push (g : G c F X fa ρ σ s) (o : Obj) : G c F X fa ρ σ { s with heap := s.heap.push o } := g.keeps (fun ξ ξ e => Heap.get?_push_of_some _ e) rfl rfl (Nat.le_refl _)
theorem G.EP (g : G c F X fa ρ σ s) {r : List Addr} {m : cN} (hr : ∀ a ∈ r, F.o a = none ∧ X a = none ∧ (∀ t, cK σ t → a ∉ bE fa ρ t) ∧ ∃ o, s.heap.get? a = some o) (hm : eJ c.C F (ρ ++ [r]) s.heap r m) :
  G c F X fa (ρ ++ [r]) (σ ++ [some m]) s := by
 have hlen := g.len
 have old : ∀ t, cK (σ ++ [some m]) t → (cK σ t ∧ bE fa (ρ ++ [r]) t = bE fa ρ t) ∨ (t = .loc σ.length ∧ bE fa (ρ ++ [r]) t = r) := by
  intro t ht
  cases t with
  | fr i => exact .inl ⟨trivial, rfl⟩
  | loc l =>
   obtain ⟨m', e⟩ := ht
   rcases Nat.lt_trichotomy l σ.length with h | h | h
   ·left
    rw [List.getElem?_append_left h] at e
    refine ⟨⟨m', e⟩, ?_⟩
    simp only [bE]; rw [List.getElem?_append_left (by lia)]
   ·subst h; right
    refine ⟨rfl, ?_⟩
    simp only [bE]; rw [List.getElem?_append_right (by lia)]; simp [hlen]
   ·rw [List.getElem?_eq_none (by simp; lia)] at e; cases e
 refine { f := g.f, x := g.x, fx := g.fx, base := g.base, apart := ?_, own := ?_, objs := ?_, len := by simp [hlen], gens := g.gens, os := g.os, bI := g.bI, ft := g.ft }
 ·intro t t' a h h' m1 m2
  rcases old t h with ⟨l1, e1⟩ | ⟨q1, e1⟩ <;> rcases old t' h' with ⟨l2, e2⟩ | ⟨q2, e2⟩ <;> rw [e1] at m1 <;> rw [e2] at m2
  ·exact g.apart t t' a l1 l2 m1 m2
  ·exact absurd m1 ((hr a m2).2.2.1 t l1)
  ·exact absurd m2 ((hr a m1).2.2.1 t' l2)
  ·rw [q1, q2]
 ·intro t a h m1
  rcases old t h with ⟨l1, e1⟩ | ⟨rfl, e1⟩ <;> rw [e1] at m1
  ·exact g.own t a l1 m1
  ·exact ⟨(hr a m1).1, (hr a m1).2.1, (hr a m1).2.2.2⟩
 ·intro l m' e
  rcases Nat.lt_trichotomy l σ.length with h | h | h
  ·rw [List.getElem?_append_left h] at e
   obtain ⟨r', h1, h2⟩ := g.objs l m' e
   exact ⟨r', by rw [List.getElem?_append_left (by lia)]; exact h1, h2.mono aG.rfl (List.prefix_append _ _) fun ξ ξ ξ h => h⟩
  ·subst h
   rw [List.getElem?_append_right (by lia)] at e
   simp at e; subst e
   exact ⟨r, by rw [List.getElem?_append_right (by lia)]; simp [hlen], hm⟩
  ·rw [List.getElem?_eq_none (by simp; lia)] at e; cases e
theorem G.Fo (g : G c F X fa ρ σ s) {vs : List Value} {xs : List D} (hs : aC c.C F ρ vs xs) (n : Nat) :
  G c F X fa (ρ ++ [[s.heap.objs.size]]) (σ ++ [some (.lst xs)]) { s with heap := s.heap.push { cls := .type "list", data := .seq vs.toArray n } } := by
 obtain ⟨h1, h2, h3⟩ := g.fresh (none_at_size s.heap)
 have hg := Heap.get?_push_size s.heap (o := { cls := .type "list", data := .seq vs.toArray n }) rfl
 refine (g.push _).EP (fun a ha => ?_) ?_
 ·simp at ha; subst ha; exact ⟨h1, h2, h3, _, hg⟩
 ·exact .lst hg (hs.mono aG.rfl (List.prefix_append _ _))
theorem G.turn (g : G c F X fa ρ σ s) {l : Nat} {m m' : cN} {r : List Addr} {h' : Heap} {tk : Nat} (hl : σ[l]? = some (some m)) (hr : ρ[l]? = some r)
  (hk : ∀ b o, b ∉ r → s.heap.get? b = some o → h'.get? b = some o) (hm : eJ c.C F ρ h' r m') (ha : ∀ a ∈ r, ∃ o, h'.get? a = some o) (ht : s.toks ≤ tk) : G c F X fa ρ (σ.set l (some m')) { s with heap := h', toks := tk } := by
 have aZ : l < σ.length := (List.getElem?_eq_some_iff.mp hl).1
 have lv : ∀ t, cK (σ.set l (some m')) t → cK σ t := by
  intro t ht
  cases t with
  | fr i => trivial
  | loc k =>
   obtain ⟨q, e⟩ := ht
   by_cases dz : k = l
   ·subst dz; exact ⟨m, hl⟩
   ·rw [List.getElem?_set_ne (Ne.symm dz)] at e; exact ⟨q, e⟩
 have CU : ∀ a ∈ r, F.o a = none ∧ X a = none := fun a h => let q := g.own (.loc l) a ⟨m, hl⟩ (by rw [f9 hr]; exact h); ⟨q.1, q.2.1⟩
 refine { f := fun a o e => hk a o (fun h => by rw [(CU a h).1] at e; cases e) (g.f a o e), x := fun a o e => hk a o (fun h => by rw [(CU a h).2] at e; cases e) (g.x a o e), fx := g.fx, base := g.base, apart := fun t t' a h h' => g.apart t t' a (lv t h) (lv t' h'), own := ?_, objs := ?_, len := by simpa using g.len, gens := g.gens, os := g.os, bI := fun h => Nat.lt_of_lt_of_le (g.bI h) ht, ft := fun t x e => ⟨(g.ft t x e).1, Nat.lt_of_lt_of_le (g.ft t x e).2 ht⟩ }
 ·intro t a h m1
  obtain ⟨q1, q2, o, q3⟩ := g.own t a (lv t h) m1
  refine ⟨q1, q2, ?_⟩
  by_cases hi : a ∈ r
  ·exact ha a hi
  ·exact ⟨o, hk a o hi q3⟩
 ·intro k q e
  by_cases dz : k = l
  ·subst dz
   rw [List.getElem?_set_self aZ] at e
   cases e
   exact ⟨r, hr, hm⟩
  ·rw [List.getElem?_set_ne (Ne.symm dz)] at e
   obtain ⟨r', h1, h2⟩ := g.objs k q e
   refine ⟨r', h1, h2.mono aG.rfl (List.prefix_refl _) fun a Kg o ho => hk a o (fun hi => ?_) ho⟩
   have := g.apart (.loc l) (.loc k) a ⟨m, hl⟩ ⟨q, e⟩ (by rw [f9 hr]; exact hi) (by rw [f9 h1]; exact Kg)
   exact dz (by cases this; rfl)
theorem tS {l : Nat} {t : Tag} (h : cK (σ.set l none) t) : cK σ t ∧ t ≠ .loc l := by
 cases t with
 | fr i => exact ⟨trivial, fun e => by cases e⟩
 | loc k =>
  obtain ⟨q, e⟩ := h
  by_cases dz : k = l
  ·subst dz
   by_cases aZ : k < σ.length
   ·rw [List.getElem?_set_self aZ] at e; cases e
   ·rw [List.getElem?_eq_none (by simp; lia)] at e; cases e
  ·rw [List.getElem?_set_ne (Ne.symm dz)] at e
   exact ⟨⟨q, e⟩, fun x => dz (by cases x; rfl)⟩
theorem G.drop (g : G c F X fa ρ σ s) (l : Nat) : G c F X fa ρ (σ.set l none) s where
 f := g.f
 x := g.x
 fx := g.fx
 base := g.base
 apart := fun t t' a h h' => g.apart t t' a (tS h).1 (tS h').1
 own := fun t a h => g.own t a (tS h).1
 objs := fun k q e => by
  by_cases dz : k = l
  ·subst dz
   by_cases aZ : k < σ.length
   ·rw [List.getElem?_set_self aZ] at e; cases e
   ·rw [List.getElem?_eq_none (by simp; lia)] at e; cases e
  ·rw [List.getElem?_set_ne (Ne.symm dz)] at e; exact g.objs k q e
 len := by simpa using g.len
 gens := g.gens
 os := g.os
 bI := g.bI
 ft := g.ft
noncomputable def cN.toD : cN → D := @fun aa => match aa with
 | .lst xs => .lst xs
 | .inst as => .inst as
theorem G.freeze (g : G c F X fa ρ σ s) {l : Nat} {m : cN} (hl : σ[l]? = some (some m)) {v : Value} (hv : Rv c.C F ρ v (.loc l)) :
  ∃ F', aG F F' ∧ G c F' X fa ρ (σ.set l none) s ∧ Rv c.C F' ρ v m.toD := by
 obtain ⟨r, hr, ho⟩ := g.objs l m hl
 have hO : ∀ a ∈ r, ∀ t, cK (σ.set l none) t → a ∉ bE fa ρ t := fun a ha t ht hm => by
  have q := tS ht
  exact q.2 (g.apart t (.loc l) a q.1 ⟨m, hl⟩ hm (by rw [f9 hr]; exact ha))
 have hw : ∀ a ∈ r, F.o a = none ∧ X a = none ∧ _ := fun a ha => g.own (.loc l) a ⟨m, hl⟩ (by rw [f9 hr]; exact ha)
 cases hv with
 | @loc b _ ee =>
  obtain ⟨r', ee⟩ := ee
  rw [hr] at ee
  cases ho with
  | @lst a vs n xs h1 hs =>
   cases ee
   have hle := g9 (o := { cls := .type "list", data := .seq vs.toArray n }) (hw b (List.mem_singleton.mpr rfl)).1
   exact ⟨_, hle, (g.drop l).gn h1 (hw _ (by simp)).1 (hw _ (by simp)).2.1 (hO _ (by simp)), .lst gH rfl rfl (hs.mono hle (List.prefix_refl _))⟩
  | @inst a d es n as h1 hd hs =>
   cases ee
   have Kh : b ≠ d := fun e => by subst e; rw [h1] at hd; cases hd
   have g1 := (g.drop l).gn h1 (hw _ (by simp)).1 (hw _ (by simp)).2.1 (hO _ (by simp))
   have l1 := g9 (o := instObj c.C d) (hw b (by simp)).1
   have CF : (jt F b (instObj c.C d)).o d = none := by show upd F.o b _ d = none; rw [lj (Ne.symm Kh)]; exact (hw d (by simp)).1
   have g2 := g1.gn hd CF (hw _ (by simp)).2.1 (hO _ (by simp))
   have l2 := g9 (o := dictOf es n) CF
   exact ⟨_, l1.trans l2, g2, .inst (l2.o _ _ gH) gH (hs.mono (l1.trans l2) (List.prefix_refl _))⟩
end
end Ev
end
section
namespace Ev
open PySem PySem.W PySem.Calls PyProof.Rows
section
variable {c : Cx} {F F' : FM} {X X' : aT} {fa bS : List (Option Addr)} {ρ ao : List (List Addr)} {σ σ' : ae} {s s' : Shared}
theorem bV {i : Nat} {a : Addr} : a ∈ bE fa ρ (.fr i) ↔ fa[i]? = some (some a) := by
 simp only [bE]
 cases e : fa[i]? with
 | none => simp
 | some o => cases o with
  | none => simp
  | some b => simp; exact eq_comm
theorem G.zS (g : G c F X fa ρ σ s) {i : Nat} {a : Addr} {h' : Heap} {tk : Nat} (hi : fa[i]? = some (some a)) (hk : ∀ b o, b ≠ a → s.heap.get? b = some o → h'.get? b = some o) (hl : ∃ o, h'.get? a = some o) (ht : s.toks ≤ tk) :
  G c F X fa ρ σ { s with heap := h', toks := tk } := by
 have hw := g.own (.fr i) a trivial (bV.mpr hi)
 refine { f := fun b o e => hk b o (fun q => by rw [q, hw.1] at e; cases e) (g.f b o e), x := fun b o e => hk b o (fun q => by rw [q, hw.2.1] at e; cases e) (g.x b o e), fx := g.fx, base := g.base, apart := g.apart, own := ?_, objs := ?_, len := g.len, gens := g.gens, os := g.os, bI := fun h => Nat.lt_of_lt_of_le (g.bI h) ht, ft := fun t x e => ⟨(g.ft t x e).1, Nat.lt_of_lt_of_le (g.ft t x e).2 ht⟩ }
 ·intro t b h m
  obtain ⟨q1, q2, o, q3⟩ := g.own t b h m
  refine ⟨q1, q2, ?_⟩
  by_cases hb : b = a
  ·subst hb; exact hl
  ·exact ⟨o, hk b o hb q3⟩
 ·intro l m e
  obtain ⟨r, h1, h2⟩ := g.objs l m e
  refine ⟨r, h1, h2.mono aG.rfl (List.prefix_refl _) fun b hb o ho => hk b o (fun q => ?_) ho⟩
  subst q
  have := g.apart (.loc l) (.fr i) b ⟨m, e⟩ trivial (by rw [f9 h1]; exact hb) (bV.mpr hi)
  cases this
open Classical in
noncomputable def hid (p : Addr → Prop) (X : aT) (h : Heap) : aT := fun b => if p b then h.get? b else X b
theorem gq {p : Addr → Prop} {h : Heap} {b : Addr} (hp : p b) : hid p X h b = h.get? b := by simp [hid, hp]
theorem dU {p : Addr → Prop} {h : Heap} {b : Addr} (hp : ¬ p b) : hid p X h b = X b := by simp [hid, hp]
noncomputable def jm (fa : List (Option Addr)) (ρ : List (List Addr)) (σ : ae) (b : Addr) : Prop := ∃ t, cK σ t ∧ b ∈ bE fa ρ t
noncomputable def gB (fa : List (Option Addr)) (b : Addr) : Prop := ∃ i : Nat, fa[i]? = some (some b)
noncomputable def oG (l : Nat) (fa : List (Option Addr)) (ρ : List (List Addr)) (σ : ae) (b : Addr) : Prop := ∃ t, t ≠ .loc l ∧ cK σ t ∧ b ∈ bE fa ρ t
theorem oz {t : Tag} {a : Addr} (h : a ∈ bE [] [] t) : False := by cases t <;> simp [bE] at h
theorem G.wQ (g : G c F X fa ρ σ s) {p : Addr → Prop} (hp : ∀ b, p b → jm fa ρ σ b) {bS : List (Option Addr)} {ao : List (List Addr)} {σ' : ae}
  (h1 : ∀ t t' a, cK σ' t → cK σ' t' → a ∈ bE bS ao t → a ∈ bE bS ao t' → t = t')
  (h2 : ∀ t a, cK σ' t → a ∈ bE bS ao t → jm fa ρ σ a ∧ ¬ p a)
  (h3 : ∀ (l : Nat) (m : cN), σ'[l]? = some (some m) → ∃ r, ao[l]? = some r ∧ eJ c.C F ao s.heap r m) (h4 : ao.length = σ'.length) :
  G c F (hid p X s.heap) bS ao σ' s where
 f := g.f
 x := fun a o e => by
  by_cases hb : p a
  ·rw [gq hb] at e; exact e
  ·rw [dU hb] at e; exact g.x a o e
 fx := fun a o e => by
  by_cases hb : p a
  ·obtain ⟨t, l, m⟩ := hp a hb
   rw [(g.own t a l m).1] at e; cases e
  ·rw [dU hb]; exact g.fx a o e
 base := g.base
 apart := h1
 own := fun t a l m => by
  obtain ⟨⟨t', l', m'⟩, hn⟩ := h2 t a l m
  have := g.own t' a l' m'
  rw [dU hn]; exact this
 objs := h3
 len := h4
 gens := g.gens
 os := g.os
 bI := g.bI
 ft := g.ft
theorem G.hide (g : G c F X fa ρ σ s) : G c F (hid (jm fa ρ σ) X s.heap) [] [] [] s :=
 g.wQ (fun ξ h => h) (fun t ξ a ξ ξ h => (oz h).elim) (fun t a ξ h => (oz h).elim) (fun l m e => by simp at e) rfl
theorem G.qP (g : G c F X fa ρ σ s) {pO : List (Option Addr)} {aQ : List (List Addr)} {σ2 : ae} (g' : G c F' (hid (jm fa ρ σ) X s.heap) pO aQ σ2 s') (hle : aG F F') :
  G c F' X fa ρ σ s' ∧ ∀ b o, jm fa ρ σ b → s.heap.get? b = some o → s'.heap.get? b = some o := by
 have hk : ∀ b o, jm fa ρ σ b → s.heap.get? b = some o → s'.heap.get? b = some o := fun b o hb e => g'.x b o (by rw [gq hb]; exact e)
 refine ⟨{ f := g'.f, x := fun a o e => ?_, fx := fun a o e => ?_, base := g'.base, apart := g.apart, own := fun t a l m => ?_, objs := fun l m e => ?_, len := g.len, gens := g'.gens, os := g'.os, bI := g'.bI, ft := g'.ft }, hk⟩
 ·by_cases hb : jm fa ρ σ a
  ·obtain ⟨t, l, m⟩ := hb
   rw [(g.own t a l m).2.1] at e; cases e
  ·exact g'.x a o (by rw [dU hb]; exact e)
 ·have := g'.fx a o e
  by_cases hb : jm fa ρ σ a
  ·obtain ⟨t, l, m⟩ := hb
   exact (g.own t a l m).2.1
  ·rw [dU hb] at this; exact this
 ·obtain ⟨q1, q2, o, q3⟩ := g.own t a l m
  have hb : jm fa ρ σ a := ⟨t, l, m⟩
  refine ⟨?_, q2, o, hk a o hb q3⟩
  cases e : F'.o a with
  | none => rfl
  | some o' =>
   have := g'.fx a o' e
   rw [gq hb, q3] at this; cases this
 ·obtain ⟨r, h1, h2⟩ := g.objs l m e
  exact ⟨r, h1, h2.mono hle (List.prefix_refl _) fun b hb o ho => hk b o ⟨.loc l, ⟨m, e⟩, by rw [f9 h1]; exact hb⟩ ho⟩
theorem G.CM (g : G c F X fa ρ σ s) : G c F (hid (gB fa) X s.heap) [] ρ σ s := by
 have yp : ∀ i a, ¬ a ∈ bE ([] : List (Option Addr)) ρ (.fr i) := fun i a h => by simp [bE] at h
 refine g.wQ (fun b ⟨i, h⟩ => ⟨.fr i, trivial, bV.mpr h⟩) ?_ ?_ g.objs g.len
 ·intro t t' a h h' m m'
  cases t with
  | fr i => exact (yp i a m).elim
  | loc l => cases t' with
   | fr i => exact (yp i a m').elim
   | loc l' => exact g.apart _ _ a h h' m m'
 ·intro t a h m
  cases t with
  | fr i => exact (yp i a m).elim
  | loc l =>
   refine ⟨⟨.loc l, h, m⟩, fun ⟨i, hi⟩ => ?_⟩
   have := g.apart (.loc l) (.fr i) a h trivial m (bV.mpr hi)
   cases this
theorem G.GW (g : G c F X fa ρ σ s) {pO : List (Option Addr)} (g' : G c F' (hid (gB fa) X s.heap) pO ao σ' s') :
  G c F' X fa ao σ' s' ∧ ∀ b o, gB fa b → s.heap.get? b = some o → s'.heap.get? b = some o := by
 have hk : ∀ b o, gB fa b → s.heap.get? b = some o → s'.heap.get? b = some o := fun b o hb e => g'.x b o (by rw [gq hb]; exact e)
 have fr : ∀ i a, fa[i]? = some (some a) → F.o a = none ∧ X a = none ∧ ∃ o, s.heap.get? a = some o := fun i a h => g.own (.fr i) a trivial (bV.mpr h)
 refine ⟨{ f := g'.f, x := fun a o e => ?_, fx := fun a o e => ?_, base := g'.base, apart := ?_, own := fun t a l m => ?_, objs := g'.objs, len := g'.len, gens := g'.gens, os := g'.os, bI := g'.bI, ft := g'.ft }, hk⟩
 ·by_cases hb : gB fa a
  ·obtain ⟨i, hi⟩ := hb
   rw [(fr i a hi).2.1] at e; cases e
  ·exact g'.x a o (by rw [dU hb]; exact e)
 ·have := g'.fx a o e
  by_cases hb : gB fa a
  ·obtain ⟨i, hi⟩ := hb
   exact (fr i a hi).2.1
  ·rw [dU hb] at this; exact this
 ·have Ef : ∀ l i a, cK σ' (.loc l) → a ∈ bE fa ao (.loc l) → a ∈ bE fa ao (.fr i) → False := fun l i a h m m' => by
   have q := (g'.own (.loc l) a h m).2.1
   have hi := bV.mp m'
   obtain ⟨_, _, o, e⟩ := fr i a hi
   rw [gq ⟨i, hi⟩, e] at q; cases q
  intro t t' a h h' m m'
  cases t with
  | fr i => cases t' with
   | fr j => exact g.apart (.fr i) (.fr j) a trivial trivial (bV.mpr (bV.mp m)) (bV.mpr (bV.mp m'))
   | loc l => exact (Ef l i a h' m' m).elim
  | loc l => cases t' with
   | fr i => exact (Ef l i a h m m').elim
   | loc l' => exact g'.apart (.loc l) (.loc l') a h h' m m'
 ·cases t with
  | fr i =>
   have hi := bV.mp m
   obtain ⟨q1, q2, o, q3⟩ := fr i a hi
   refine ⟨?_, q2, o, hk a o ⟨i, hi⟩ q3⟩
   cases e : F'.o a with
   | none => rfl
   | some o' =>
    have := g'.fx a o' e
    rw [gq ⟨i, hi⟩, q3] at this; cases this
  | loc k =>
   obtain ⟨q1, q2, q3⟩ := g'.own (.loc k) a l m
   refine ⟨q1, ?_, q3⟩
   by_cases hb : gB fa a
   ·obtain ⟨i, hi⟩ := hb
    exact (fr i a hi).2.1
   ·rw [dU hb] at q2; exact q2
theorem G.yl (g : G c F X [] ρ σ s) (h : ∀ (i : Nat) a, fa[i]? = some (some a) → F.o a = none ∧ X a = none ∧ (∀ t, cK σ t → a ∉ bE [] ρ t) ∧ ∃ o, s.heap.get? a = some o)
  (hi : ∀ (i j : Nat) a, fa[i]? = some (some a) → fa[j]? = some (some a) → i = j) : G c F X fa ρ σ s where
 f := g.f
 x := g.x
 fx := g.fx
 base := g.base
 apart := fun t t' a l l' m m' => by
  cases t with
  | fr i => cases t' with
   | fr j => rw [hi i j a (bV.mp m) (bV.mp m')]
   | loc k => exact absurd m' ((h i a (bV.mp m)).2.2.1 (.loc k) l')
  | loc k => cases t' with
   | fr j => exact absurd m ((h j a (bV.mp m')).2.2.1 (.loc k) l)
   | loc k' => exact g.apart (.loc k) (.loc k') a l l' m m'
 own := fun t a l m => by
  cases t with
  | fr i => obtain ⟨a1, a2, _, a3⟩ := h i a (bV.mp m); exact ⟨a1, a2, a3⟩
  | loc k => exact g.own (.loc k) a l m
 objs := g.objs
 len := g.len
 gens := g.gens
 os := g.os
 bI := g.bI
 ft := g.ft
theorem G.KN (g : G c F X fa ρ σ s) {l : Nat} {m : cN} {r : List Addr} (hl : σ[l]? = some (some m)) (hr : ρ[l]? = some r) (hm : eJ c.C F [r] s.heap r m) :
  G c F (hid (oG l fa ρ σ) X s.heap) [] [r] [some m] s := by
 have one : ∀ t a, cK [some m] t → a ∈ bE [] [r] t → t = .loc 0 ∧ a ∈ r := by
  intro t a h ha
  cases t with
  | fr i => simp [bE] at ha
  | loc k =>
   cases k with
   | zero => exact ⟨rfl, by simpa [bE] using ha⟩
   | succ k => simp [bE] at ha
 refine g.wQ (fun b ⟨t, _, h, m⟩ => ⟨t, h, m⟩) ?_ ?_ ?_ rfl
 ·intro t t' a h h' a1 a2; rw [(one t a h a1).1, (one t' a h' a2).1]
 ·intro t a h a1
  have q := (one t a h a1).2
  have q' : a ∈ bE fa ρ (.loc l) := by rw [f9 hr]; exact q
  exact ⟨⟨.loc l, ⟨m, hl⟩, q'⟩, fun ⟨t', bH, h', m'⟩ => bH (g.apart _ _ a h' ⟨m, hl⟩ m' q')⟩
 ·intro k m' e
  cases k with
  | zero => simp at e; subst e; exact ⟨r, rfl, hm⟩
  | succ k => simp at e
theorem G.QI (g : G c F X fa ρ σ s) {l : Nat} {m m' : cN} {r : List Addr} (hl : σ[l]? = some (some m)) (hr : ρ[l]? = some r)
  (g' : G c F' (hid (oG l fa ρ σ) X s.heap) [] [r] [some m'] s') (hle : aG F F') (hm : eJ c.C F' ρ s'.heap r m') :
  G c F' X fa ρ (σ.set l (some m')) s' ∧ ∀ b o, gB fa b → s.heap.get? b = some o → s'.heap.get? b = some o := by
 have aZ : l < σ.length := (List.getElem?_eq_some_iff.mp hl).1
 have hk : ∀ b o, oG l fa ρ σ b → s.heap.get? b = some o → s'.heap.get? b = some o := fun b o hb e => g'.x b o (by rw [gq hb]; exact e)
 have lv : ∀ t, cK (σ.set l (some m')) t → cK σ t := by
  intro t ht
  cases t with
  | fr i => trivial
  | loc k =>
   obtain ⟨q, e⟩ := ht
   by_cases dz : k = l
   ·subst dz; exact ⟨m, hl⟩
   ·rw [List.getElem?_set_ne (Ne.symm dz)] at e; exact ⟨q, e⟩
 refine ⟨{ f := g'.f, x := fun a o e => ?_, fx := fun a o e => ?_, base := g'.base, apart := fun t t' a h h' => g.apart t t' a (lv t h) (lv t' h'), own := fun t a h m1 => ?_, objs := fun k q e => ?_, len := by simpa using g.len, gens := g'.gens, os := g'.os, bI := g'.bI, ft := g'.ft },
  fun b o ⟨i, hi⟩ e => hk b o ⟨.fr i, (fun q => by cases q), trivial, bV.mpr hi⟩ e⟩
 ·by_cases hb : oG l fa ρ σ a
  ·obtain ⟨t, _, h, m1⟩ := hb
   rw [(g.own t a h m1).2.1] at e; cases e
  ·exact g'.x a o (by rw [dU hb]; exact e)
 ·have := g'.fx a o e
  by_cases hb : oG l fa ρ σ a
  ·obtain ⟨t, _, h, m1⟩ := hb
   exact (g.own t a h m1).2.1
  ·rw [dU hb] at this; exact this
 ·obtain ⟨q1, q2, o, q3⟩ := g.own t a (lv t h) m1
  by_cases ht : t = .loc l
  ·subst ht
   rw [f9 hr] at m1
   obtain ⟨p1, p2, p3⟩ := g'.own (.loc 0) a ⟨m', rfl⟩ (by simpa [bE] using m1)
   exact ⟨p1, q2, p3⟩
  ·have hb : oG l fa ρ σ a := ⟨t, ht, lv t h, m1⟩
   refine ⟨?_, q2, o, hk a o hb q3⟩
   cases e : F'.o a with
   | none => rfl
   | some o' =>
    have := g'.fx a o' e
    rw [gq hb, q3] at this; cases this
 ·by_cases dz : k = l
  ·subst dz
   rw [List.getElem?_set_self aZ] at e; cases e
   exact ⟨r, hr, hm⟩
  ·rw [List.getElem?_set_ne (Ne.symm dz)] at e
   obtain ⟨r', h1, h2⟩ := g.objs k q e
   exact ⟨r', h1, h2.mono hle (List.prefix_refl _) fun b hb o ho => hk b o ⟨.loc k, (fun x => dz (by cases x; rfl)), ⟨q, e⟩, by rw [f9 h1]; exact hb⟩ ho⟩
end
end Ev
end
section
namespace Ev
open PySem PySem.W PySem.Calls PyProof.Rows
structure cG (c : Cx) : Prop where
 K : c.K.In c.B
 g : ∃ mg, c.B.Ns mainGlobals mg
 b : ∃ mb, c.B.Ns builtinsNs mb ∧ ∀ x : Str, x ≠ "__name__" → mb x = bootBuiltins x
 nolimit : c.B.NoLimit
structure cT (c : Cx) (nm : List (Str × NameKind)) (F : FM) (X : aT) (ρ : List (List Addr)) (env : Env) (fa : List (Option Addr)) (vars : List (Option D)) (h : Heap) : Prop where
 kindF : env.scope.kind = .function
 glob : env.globals = mainGlobals
 bi : env.builtins = builtinsNs
 nd : (nm.map (·.1)).Nodup
 len : vars.length = nm.length
 l0 : fa[0]? = some (some env.locals)
 kinds : ∀ x k, nm.lookup x = some k → (k = .free → env.kindOf x = some .cell ∨ env.kindOf x = some .free) ∧ (k ≠ .free → env.kindOf x = some k)
 ns : ∃ m, h.Ns env.locals m ∧ ∀ (i : Nat) x d, nm[i]? = some (x, .local) → vars[i]? = some (some d) → ∃ v, m x = some v ∧ Rv c.C F ρ v d
 cell : ∀ (i : Nat) x, nm[i]? = some (x, .cell) → ∃ a w, env.cells.lookup x = some a ∧ fa[i + 1]? = some (some a) ∧ h.IsCell a w ∧ ∀ d, vars[i]? = some (some d) → ∃ v, w = some v ∧ Rv c.C F ρ v d
 free : ∀ (i : Nat) x d, nm[i]? = some (x, .free) → vars[i]? = some (some d) → ∃ a o v, env.cells.lookup x = some a ∧ X a = some o ∧ o.data = .cell (some v) ∧ Rv c.C F ρ v d
section
variable {c : Cx} {nm : List (Str × NameKind)} {F F' : FM} {X X' : aT} {fa bS : List (Option Addr)} {ρ ao : List (List Addr)} {σ σ' : ae} {s s' : Shared} {env : Env} {vars : List (Option D)}
theorem cT.to {h h' : Heap} (f : cT c nm F X ρ env fa vars h) (hF : aG F F') (e9 : ρ <+: ao) (hh : ∀ (i : Nat) a o, fa[i]? = some (some a) → h.get? a = some o → h'.get? a = some o) : cT c nm F' X ao env fa vars h' where
 kindF := f.kindF
 glob := f.glob
 bi := f.bi
 nd := f.nd
 len := f.len
 l0 := f.l0
 kinds := f.kinds
 ns := by
  obtain ⟨m, hn, hv⟩ := f.ns
  refine ⟨m, hn.at' fun o e => hh 0 _ o f.l0 e, fun i x d h1 h2 => ?_⟩
  obtain ⟨v, a, b⟩ := hv i x d h1 h2
  exact ⟨v, a, b.mono hF e9⟩
 cell := fun i x h1 => by
  obtain ⟨a, w, q1, q2, ⟨o, q3, q4⟩, q5⟩ := f.cell i x h1
  refine ⟨a, w, q1, q2, ⟨o, hh _ a o q2 q3, q4⟩, fun d hd => ?_⟩
  obtain ⟨v, e, r⟩ := q5 d hd
  exact ⟨v, e, r.mono hF e9⟩
 free := fun i x d h1 h2 => by
  obtain ⟨a, o, v, q1, q2, q3, q4⟩ := f.free i x d h1 h2
  exact ⟨a, o, v, q1, q2, q3, q4.mono hF e9⟩
theorem iT : ∀ {nm : List (Str × NameKind)} {i : Nat} {x : Str} {k : NameKind}, (nm.map (·.1)).Nodup → nm[i]? = some (x, k) → nm.lookup x = some k := @fun aa ak => @(match aa, ak with
 | [], i => @fun x k ξ h => by simp at h
 | (y, j) :: r, 0 => @fun x k ξ h => by simp at h; obtain ⟨rfl, rfl⟩ := h; simp [List.lookup_cons]
 | (y, j) :: r, i + 1 => @fun x k nd h => by
  have h' : r[i]? = some (x, k) := by simpa using h
  simp only [List.map_cons, List.nodup_cons] at nd
  have bH : (x == y) = false := by
   rw [beq_eq_false_iff_ne]; intro e; subst e
   exact nd.1 (List.mem_map.mpr ⟨(x, k), List.mem_of_getElem? h', rfl⟩)
  rw [List.lookup_cons, bH]
  exact iT nd.2 h')
theorem qw : ∀ {nm : List (Str × NameKind)} {i j : Nat} {x : Str} {k k' : NameKind}, (nm.map (·.1)).Nodup → nm[i]? = some (x, k) → nm[j]? = some (x, k') → i = j := @fun aa ak aS => @(match aa, ak, aS with
 | [], i, υ1 => @fun ξ ξ ξ ξ h ξ => by simp at h
 | (y, q) :: r, 0, 0 => @fun ξ ξ ξ ξ ξ ξ => rfl
 | (y, q) :: r, 0, j + 1 => @fun x k k' nd h h' => by
  simp at h; obtain ⟨rfl, rfl⟩ := h
  simp only [List.map_cons, List.nodup_cons] at nd
  exact absurd (List.mem_map.mpr ⟨(y, k'), List.mem_of_getElem? (by simpa using h'), rfl⟩) nd.1
 | (y, q) :: r, i + 1, 0 => @fun x k k' nd h h' => by
  simp at h'; obtain ⟨rfl, rfl⟩ := h'
  simp only [List.map_cons, List.nodup_cons] at nd
  exact absurd (List.mem_map.mpr ⟨(y, k), List.mem_of_getElem? (by simpa using h), rfl⟩) nd.1
 | (y, q) :: r, i + 1, j + 1 => @fun x k k' nd h h' => by
  simp only [List.map_cons, List.nodup_cons] at nd
  exact congrArg (· + 1) (qw nd.2 (by simpa using h) (by simpa using h')))
variable {prog : Program} {w : World} {A : Around} {E : Value → Shared → Prop}
theorem cT.load {M : Model} {i : Nat} {x : Str} {k : NameKind} {pos : Pos} {d : D} {Q : Value → Shared → Prop} (f : cT c nm F X ρ env fa vars s.heap) (g : G c F X fa ρ σ s)
  (hx : nm[i]? = some (x, k)) (hk : k = .local ∨ k = .cell ∨ k = .free) (hd : vars[i]? = some (some d)) (dF : (x == ("__debug__" : Str)) = false) (hcd : (x == ("__classdict__" : Str)) = false)
  (h : ∀ v, Rv c.C F ρ v d → Q v s) : wpAny M A (eval (.Name x pos) env) Q E s := by
 have hl := iT f.nd hx
 have gr := f.kinds x k hl
 rcases hk with rfl | rfl | rfl
 ·obtain ⟨m, hn, hv⟩ := f.ns
  obtain ⟨v, e, r⟩ := hv i x d hx hd
  exact wpAny_Name (wpAny_loadName_local f.kindF (gr.2 (by decide)) hn e (h v r)) dF
 ·obtain ⟨a, w, q1, q2, q3, q4⟩ := f.cell i x hx
  obtain ⟨v, rfl, r⟩ := q4 d hd
  exact wpAny_Name (wpAny_loadName_cell f.kindF (gr.2 (by decide)) q1 q3 (h v r)) dF
 ·obtain ⟨a, o, v, q1, q2, q3, q4⟩ := f.free i x d hx hd
  have hc : s.heap.IsCell a (some v) := ⟨o, g.x a o q2, q3⟩
  rcases gr.1 rfl with e | e
  ·exact wpAny_Name (wpAny_loadName_cell f.kindF e q1 hc (h v q4)) dF
  ·exact wpAny_Name (wpAny_loadName_free f.kindF e q1 hc (h v q4) hcd) dF
theorem G.u9 {i j : Nat} {a : Addr} (g : G c F X fa ρ σ s) (h1 : fa[i]? = some (some a)) (h2 : fa[j]? = some (some a)) : i = j := by injection g.apart (.fr i) (.fr j) a trivial trivial (bV.mpr h1) (bV.mpr h2)
theorem ow {i j : Nat} {x y : Str} {k k' : NameKind} (hi : nm[i]? = some (x, k)) (hj : nm[j]? = some (y, k')) (h : k ≠ k') : i ≠ j := fun q => h (congrArg Prod.snd (Option.some.inj (hi.symm.trans (q ▸ hj))))
theorem cT.N2 {h : Heap} {i : Nat} {x : Str} {v : Value} {d : D} {m : Str → Option Value} (f : cT c nm F X ρ env fa vars h) (hx : nm[i]? = some (x, .local)) (hv : Rv c.C F ρ v d) (hm : ∀ (i : Nat) x d, nm[i]? = some (x, .local) → vars[i]? = some (some d) → ∃ v, m x = some v ∧ Rv c.C F ρ v d)
  (j : Nat) (y : Str) (e : D) (h1 : nm[j]? = some (y, .local)) (h2 : (vars.set i (some d))[j]? = some (some e)) : ∃ u, (if y = x then some v else m y) = some u ∧ Rv c.C F ρ u e := by
 have hi : i < vars.length := Nat.lt_of_lt_of_eq (List.getElem?_eq_some_iff.mp hx).1 f.len.symm
 by_cases fT : j = i
 ·subst fT
  rw [hx] at h1; cases h1
  rw [List.getElem?_set_self hi] at h2; cases h2
  exact ⟨v, if_pos rfl, hv⟩
 ·rw [List.getElem?_set_ne (Ne.symm fT)] at h2
  rw [if_neg fun q => fT (qw f.nd h1 (q ▸ hx))]
  exact hm j y e h1 h2
theorem cT.A5 {h h' : Heap} {i j : Nat} {y : Str} {d : D} (f : cT c nm F X ρ env fa vars h) (h1 : nm[j]? = some (y, .cell)) (bH : i ≠ j) (hk : ∀ a, fa[j + 1]? = some (some a) → h'.get? a = h.get? a) :
  ∃ a w, env.cells.lookup y = some a ∧ fa[j + 1]? = some (some a) ∧ h'.IsCell a w ∧ ∀ e, (vars.set i (some d))[j]? = some (some e) → ∃ v, w = some v ∧ Rv c.C F ρ v e := by
 obtain ⟨a, w, q1, q2, ⟨o, q3, q4⟩, q5⟩ := f.cell j y h1
 exact ⟨a, w, q1, q2, ⟨o, (hk a q2).trans q3, q4⟩, fun e he => q5 e ((List.getElem?_set_ne bH).symm.trans he)⟩
theorem cT.zy {M : Model} {i : Nat} {x : Str} {v : Value} {d : D} {Q : Unit → Shared → Prop} (f : cT c nm F X ρ env fa vars s.heap) (g : G c F X fa ρ σ s)
  (hx : nm[i]? = some (x, .local)) (hv : Rv c.C F ρ v d)
  (h : ∀ s', G c F X fa ρ σ s' → cT c nm F X ρ env fa (vars.set i (some d)) s'.heap → Q () s') : wpAny M A (storeName env x v) Q E s := by
 obtain ⟨m, hn, hm⟩ := f.ns
 refine wpAny_storeName_local ((f.kinds x _ (iT f.nd hx)).2 (by decide)) hn (fun h' kB cJ => ?_) (by rw [f.kindF]; rfl)
 exact h _ (g.zS f.l0 (fun b o hb e => (cJ.2 b hb).trans e) (let ⟨o, _, _, e, _⟩ := kB; ⟨o, e⟩) (Nat.le_succ _))
  { f with len := List.length_set.trans f.len, ns := ⟨_, kB, f.N2 hx hv hm⟩, cell := fun j y h1 => f.A5 h1 (ow hx h1 (by decide)) fun a q2 => cJ.2 a fun q => Nat.noConfusion (g.u9 q2 (q ▸ f.l0)), free := fun j y e h1 h2 => f.free j y e h1 ((List.getElem?_set_ne (ow hx h1 (by decide))).symm.trans h2) }
theorem cT.P5 {M : Model} {i : Nat} {x : Str} {v : Value} {d : D} {Q : Unit → Shared → Prop} (f : cT c nm F X ρ env fa vars s.heap) (g : G c F X fa ρ σ s)
  (hx : nm[i]? = some (x, .cell)) (hv : Rv c.C F ρ v d)
  (h : ∀ s', G c F X fa ρ σ s' → cT c nm F X ρ env fa (vars.set i (some d)) s'.heap → Q () s') : wpAny M A (storeName env x v) Q E s := by
 have hi : i < vars.length := Nat.lt_of_lt_of_eq (List.getElem?_eq_some_iff.mp hx).1 f.len.symm
 obtain ⟨a, w, q1, q2, q3, q4⟩ := f.cell i x hx
 refine wpAny_storeName_cell f.kindF ((f.kinds x _ (iT f.nd hx)).2 (by decide)) q1 q3 fun h' je cJ => ?_
 refine h _ (g.zS (tk := s.toks) q2 (fun b o hb e => (cJ.2 b hb).trans e) (let ⟨o, e, _⟩ := je; ⟨o, e⟩) (Nat.le_refl _))
  { f with len := List.length_set.trans f.len, ns := let ⟨m, hn, hm⟩ := f.ns; ⟨m, hn.sameBut cJ fun q => Nat.noConfusion (g.u9 q2 (q ▸ f.l0)), fun j y e h1 h2 => hm j y e h1 ((List.getElem?_set_ne (ow hx h1 (by decide))).symm.trans h2)⟩, cell := fun j y h1 => ?_, free := fun j y e h1 h2 => f.free j y e h1 ((List.getElem?_set_ne (ow hx h1 (by decide))).symm.trans h2) }
 by_cases fT : i = j
 ·subst fT
  rw [hx] at h1; cases h1
  exact ⟨a, some v, q1, q2, je, fun e he => ⟨v, rfl, Option.some.inj (Option.some.inj ((List.getElem?_set_self hi).symm.trans he)) ▸ hv⟩⟩
 ·exact f.A5 h1 fT fun b e => cJ.2 b fun q => fT (Nat.succ.inj (g.u9 (q ▸ e) q2)).symm
theorem cT.store {M : Model} {i : Nat} {x : Str} {k : NameKind} {v : Value} {d : D} {Q : Unit → Shared → Prop} (f : cT c nm F X ρ env fa vars s.heap) (g : G c F X fa ρ σ s)
  (hx : nm[i]? = some (x, k)) (hk : k = .local ∨ k = .cell) (hv : Rv c.C F ρ v d)
  (h : ∀ s', G c F X fa ρ σ s' → cT c nm F X ρ env fa (vars.set i (some d)) s'.heap → Q () s') : wpAny M A (storeName env x v) Q E s := by
 rcases hk with rfl | rfl
 ·exact f.zy g hx hv h
 ·exact f.P5 g hx hv h
theorem cT.global {M : Model} {x : Str} {pos : Pos} {v : Value} {Q : Value → Shared → Prop} (Z : cG c) (f : cT c nm F X ρ env fa vars s.heap) (g : G c F X fa ρ σ s)
  (hk : nm.lookup x = some .globalImplicit) (e : nsIn c.K mainGlobals x = some (some v)) (dF : (x == ("__debug__" : Str)) = false) (h : Q v s) : wpAny M A (eval (.Name x pos) env) Q E s := by
 obtain ⟨mg, hg⟩ := Z.g
 have kp : ∀ b o, c.B.get? b = some o → s.heap.get? b = some o := fun b o q => g.f b o (g.base b o q)
 exact Name_function_global f.kindF ((f.kinds x _ hk).2 (by decide)) (loadGlobal_global (mg := mg) (by rw [f.glob]; exact hg.keeps kp) (mg_of Z.K hg e) h) dF
theorem cT.builtin {M : Model} {x : Str} {pos : Pos} {v : Value} {Q : Value → Shared → Prop} (Z : cG c) (f : cT c nm F X ρ env fa vars s.heap) (g : G c F X fa ρ σ s)
  (hk : nm.lookup x = some .globalImplicit) (e : nsIn c.K mainGlobals x = some none) (hv : bootBuiltins x = some v) (hn : x ≠ "__name__") (dF : (x == ("__debug__" : Str)) = false) (h : Q v s) : wpAny M A (eval (.Name x pos) env) Q E s := by
 obtain ⟨mg, hg⟩ := Z.g
 obtain ⟨mb, hb, wK⟩ := Z.b
 have kp : ∀ b o, c.B.get? b = some o → s.heap.get? b = some o := fun b o q => g.f b o (g.base b o q)
 exact Name_function_global f.kindF ((f.kinds x _ hk).2 (by decide)) (loadGlobal_builtin (mg := mg) (mb := mb) (by rw [f.glob]; exact hg.keeps kp) (mg_none_of Z.K hg e) (by rw [f.bi]; exact hb.keeps kp) ((wK x hn).trans hv) h) dF
end
end Ev
end
section
namespace Ev
open PySem
inductive Bi where
 | len | max | min | round | sum | sorted | list | tuple | range | enumerate | zip
 deriving DecidableEq
inductive T where
 | var (i : Nat)
 | tup (is : List Nat)
inductive E where
 | lit (d : D)
 | var (i : Nat)
 | bin (op : Operator) (a b : E)
 | rep (a n : E)
 | not (a : E)
 | both (a b : E)
 | either (a b : E)
 | cmp (op : CmpOp) (a b : E)
 | ite (c a b : E)
 | tup (es : List E)
 | lst (es : List E)
 | idx (a i : E)
 | eT (a : E) (lo hi st : Option E)
 | attr (a : E) (k : Nat)
 | call (f : Nat) (es : List E)
 | eN (f : Nat) (o : E) (es : List E)
 | bW (f : Nat) (o : E) (es : List E)
 | new (a : E)
 | bi (b : Bi) (es : List E)
 | append (o a : E)
 | pop (o : E)
 | range (es : List E)
 | kJ (es : List E)
 | enum (a : E)
 | zip (a b : E)
 | split (o a : E)
 | comp (aq : List (Option Nat)) (elt : E) (t : T) (it : E) (ifs : List E)
 | sortKey (a : E) (aq : List (Option Nat)) (key : E)
inductive S where
 | asg (ts : List T) (e : E)
 | setAttr (o : E) (k : Nat) (e : E)
 | dJ (o i : E) (e : E)
 | expr (e : E)
 | ret (e : E)
 | ite (c : E) (a b : List S)
 | wh (c : E) (b : List S)
 | for (t : T) (it : E) (b : List S)
 | brk
 | cont
noncomputable def small (i : Int) : Bool := decide (i.natAbs < 2 ^ 62)
noncomputable def az : Nat := 2 ^ 20
mutual
noncomputable def D.beq : D → D → Bool := @fun aa ak => match aa, ak with
 | .none, .none => true
 | .bool a, .bool b => a == b
 | .int a, .int b => a == b
 | .flt a, .flt b => a == b
 | .str a, .str b => a == b
 | .tup a, .tup b => D.vf a b
 | .lst a, .lst b => D.vf a b
 | .inst a, .inst b => D.AH a b
 | .loc a, .loc b => a == b
 | υ1, υ2 => false
noncomputable def D.vf : List D → List D → Bool := @fun aa ak => match aa, ak with
 | [], [] => true
 | a :: as, b :: bs => D.beq a b && D.vf as bs
 | υ1, υ2 => false
noncomputable def D.AH : List (Nat × D) → List (Nat × D) → Bool := @fun aa ak => match aa, ak with
 | [], [] => true
 | (i, a) :: as, (j, b) :: bs => i == j && D.beq a b && D.AH as bs
 | υ1, υ2 => false
end
mutual
noncomputable def D.dep : D → Nat := @fun aa => match aa with
 | .tup xs => D.eY xs + 1
 | .lst xs => D.eY xs + 1
 | υ1 => 0
noncomputable def D.eY : List D → Nat := @fun aa => match aa with
 | [] => 0
 | x :: xs => max (D.dep x) (D.eY xs)
end
noncomputable def BI (a : Int) : D → Option Bool := @fun aa => match aa with
 | .int b => some (a == b)
 | υ1 => none
noncomputable def BD (a : Bool) : D → Option Bool := @fun aa => match aa with
 | .bool b => some (a == b)
 | υ1 => none
noncomputable def BH (a : UInt64) : D → Option Bool := @fun aa => match aa with
 | .flt b => if Float64.isNaN a || Float64.isNaN b then none else some (Float64.cmp a b == some Ordering.eq)
 | υ1 => none
noncomputable def eqStr (a : List Nat) : D → Option Bool := @fun aa => match aa with
 | .str b => some (a == b)
 | υ1 => none
noncomputable def BK : D → Option Bool := @fun aa => match aa with
 | .none => some true
 | υ1 => none
noncomputable def yy (f : List D → Option Bool) : D → Option Bool := @fun aa => match aa with
 | .tup b => f b
 | υ1 => none
noncomputable def E2 (f : List D → Option Bool) : D → Option Bool := @fun aa => match aa with
 | .lst b => f b
 | υ1 => none
mutual
noncomputable def aM : D → D → Option Bool := @fun aa ak => match aa, ak with
 | .none, y => BK y
 | .bool a, y => BD a y
 | .int a, y => BI a y
 | .flt a, y => BH a y
 | .str a, y => eqStr a y
 | .tup a, y => yy (fun b => cB a b) y
 | .lst a, y => E2 (fun b => if a.length == b.length then cB a b else some false) y
 | .inst υ1, υ2 => none
 | .loc υ1, υ2 => none
noncomputable def cB : List D → List D → Option Bool := @fun aa ak => match aa, ak with
 | [], [] => some true
 | [], υ1 :: υ2 => some false
 | υ1 :: υ2, [] => some false
 | a :: as, b :: bs => (aM a b).bind fun p => (cB as bs).map fun q => p && q
end
noncomputable def Es (a : Int) : D → Option Bool := @fun aa => match aa with
 | .int b => some (decide (a < b))
 | υ1 => none
noncomputable def Ep (a : UInt64) : D → Option Bool := @fun aa => match aa with
 | .flt b => if Float64.isNaN a || Float64.isNaN b then none else some (Float64.cmp a b == some Ordering.lt)
 | υ1 => none
mutual
noncomputable def eu : D → D → Option Bool := @fun aa ak => match aa, ak with
 | .int a, y => Es a y
 | .flt a, y => Ep a y
 | .tup a, y => yy (fun b => gU a b) y
 | υ1, υ2 => none
noncomputable def gU : List D → List D → Option Bool := @fun aa ak => match aa, ak with
 | [], [] => some false
 | [], υ1 :: υ2 => some true
 | υ1 :: υ2, [] => some false
 | a :: as, b :: bs => (aM a b).bind fun p => if p then gU as bs else eu a b
end
noncomputable def oB (f : Int → Int → Bool) (g : UInt64 → UInt64 → Bool) : D → D → Option Bool := @fun aa ak => match aa, ak with
 | .int a, y => (match y with | .int b => some (f a b) | _ => none)
 | .flt a, y => (match y with | .flt b => some (g a b) | _ => none)
 | υ1, υ2 => none
noncomputable def cQ (op : CmpOp) (a b : D) : Option Bool := match op with
 | .Eq => aM a b
 | .NotEq => (aM a b).map (!·)
 | .Lt => eu a b
 | .LtE => oB (fun a b => decide (a ≤ b)) (fun a b => Float64.cmp a b == some Ordering.lt || Float64.cmp a b == some Ordering.eq) a b
 | .Gt => oB (fun a b => decide (a > b)) (fun a b => Float64.cmp a b == some Ordering.gt) a b
 | .GtE => oB (fun a b => decide (a ≥ b)) (fun a b => Float64.cmp a b == some Ordering.gt || Float64.cmp a b == some Ordering.eq) a b
 | _ => none
noncomputable def jz : List D → Option (List Bool) := @fun aa => match aa with
 | [] => some []
 | .bool b :: r => (jz r).map (b :: ·)
 | υ1 :: υ2 => none
noncomputable def inD (a b : D) : Option Bool := match a with
 | .bool a => (match b with | .lst xs => (jz xs).map (·.contains a) | _ => none)
 | _ => none
noncomputable def ji : D → Bool := @fun aa => match aa with
 | .flt υ1 => true
 | υ1 => false
noncomputable def eX (i : Int) : Bool := !Float64.isInf (Float64.ofInt i)
noncomputable def gb (op : Operator) (a b : Int) : Option D := match op with
 | .Add => some (.int (a + b))
 | .Sub => some (.int (a - b))
 | .Mult => if small a || small b then some (.int (a * b)) else none
 | .FloorDiv => if b == 0 || !small b then none else some (.int (a.fdiv b))
 | .Mod => if b == 0 then none else some (.int (a.fmod b))
 | .RShift => if 0 ≤ b ∧ b ≤ 64 then some (.int (a.fdiv (2 ^ b.toNat))) else none
 | .Pow => if small a && decide (0 ≤ b ∧ b ≤ 64) then some (.int (a ^ b.toNat)) else none
 | .Div => if b == 0 || Float64.isInf (Float64.ofFrac (decide (a < 0) != decide (b < 0)) a.natAbs b.natAbs) then none else some (.flt (Float64.ofFrac (decide (a < 0) != decide (b < 0)) a.natAbs b.natAbs))
 | _ => none
noncomputable def vg (op : Operator) (a b : UInt64) : Option D := match op with
 | .Add => some (.flt (Float64.add a b))
 | .Sub => some (.flt (Float64.sub a b))
 | .Mult => some (.flt (Float64.mul a b))
 | .Div => if Float64.isZero b then none else some (.flt (Float64.div a b))
 | .Mod => if Float64.isZero b then none else some (.flt (Float64.divmod a b).2)
 | _ => none
noncomputable def vh (op : Operator) (a : Int) (b : UInt64) : Option D := match op with
 | .Div => if !eX a || Float64.isZero b then none else some (.flt (Float64.div (Float64.ofInt a) b))
 | .Mult => if !eX a then none else some (.flt (Float64.mul (Float64.ofInt a) b))
 | _ => none
noncomputable def vn (op : Operator) (a b : List Nat) : Option D := match op with
 | .Add => if a.length + b.length ≤ az then some (.str (a ++ b)) else none
 | _ => none
noncomputable def vm (op : Operator) (a : List Nat) (n : Int) : Option D := match op with
 | .Mult => if small n && decide (a.length * n.toNat ≤ az) then some (.str (List.replicate n.toNat a).flatten) else none
 | _ => none
noncomputable def dH (op : Operator) (x y : D) : Option D := match x with
 | .int a => (match y with | .int b => gb op a b | .flt b => vh op a b | _ => none)
 | .flt a => (match y with | .flt b => vg op a b | _ => none)
 | .str a => (match y with | .str b => vn op a b | .int n => vm op a n | _ => none)
 | _ => none
noncomputable def oO : D → Option Bool := @fun aa => match aa with
 | .bool b => some b
 | .int i => some (!(i == 0))
 | .lst xs => if xs.length ≤ az then some (!xs.isEmpty) else none
 | υ1 => none
noncomputable def qH : D → Option (List D) := @fun aa => match aa with
 | .lst xs => some xs
 | .tup xs => some xs
 | υ1 => none
noncomputable def intD : D → Option Int := @fun aa => match aa with
 | .int i => some i
 | υ1 => none
noncomputable def dW : D → Option (List D) := @fun aa => match aa with
 | .lst xs => some xs
 | υ1 => none
noncomputable def zz : D → Option (List Nat) := @fun aa => match aa with
 | .str a => some a
 | υ1 => none
noncomputable def De (a i : D) : Option D := (qH a).bind fun xs => (intD i).bind fun i => if 0 ≤ i ∧ small i then xs[i.toNat]? else none
noncomputable def mR (a : D) (lo hi st : Option Int) : Option D := (dW a).bind fun xs =>
 if xs.length ≤ az ∧ st ≠ some 0 then
   some (.lst ((sliceRange (sliceBounds lo hi st xs.length).1 (sliceBounds lo hi st xs.length).2.1 (sliceBounds lo hi st xs.length).2.2).filterMap (xs[·]?))) else none
noncomputable def cL (gt : D → D → Option Bool) : D → List D → Option D := @fun aa ak => match aa, ak with
 | b, [] => some b
 | b, x :: xs => match gt x b with
  | some true => cL gt x xs
  | some false => cL gt b xs
  | none => none
noncomputable def num : D → Bool := @fun aa => match aa with
 | .int υ1 => true
 | .flt υ1 => true
 | υ1 => false
noncomputable def bestOf (op : CmpOp) (xs : List D) : Option D := match xs with
 | x :: r => if xs.all num then cL (cQ op) x r else none
 | [] => none
noncomputable def intsOf : List D → Option (List Int) := @fun aa => match aa with
 | [] => some []
 | .int i :: r => (intsOf r).map (i :: ·)
 | υ1 :: υ2 => none
noncomputable def sumInts : List Int → Int := @fun aa => match aa with
 | [] => 0
 | i :: r => i + sumInts r
noncomputable def iS : List D → List D → Option Bool := @fun aa ak => match aa, ak with
 | [], [] => some false
 | [], υ1 :: υ2 => some true
 | υ1 :: υ2, [] => some false
 | a :: as, b :: bs => (intD a).bind fun x => (intD b).bind fun y => if x == y then iS as bs else some (decide (x < y))
noncomputable def qO : D → Option (List D) := @fun aa => match aa with
 | .tup xs => some xs
 | υ1 => none
noncomputable def mG (ds : List D) (i j : Nat) : Option Bool := (ds[i]?.bind qO).bind fun x => (ds[j]?.bind qO).bind fun y => iS x y
noncomputable def gZ {α : Type} (less : Nat → Nat → Option Bool) : PySem.W.KasT α → Option α := @fun aa => match aa with
 | .ret a => some a
 | .ask i j k => (less i j).bind fun b => gZ less (k b)
noncomputable def ku (d : D) : Bool := match (qO d).bind List.head? with
 | some x => (intD x).isSome
 | none => false
noncomputable def qM (xs : List D) : Option (List D) := if xs.length < 64 ∧ xs.all ku then (if xs.length < 2 then some xs else (gZ (mG xs) (PySem.W.kas_sort xs.length)).map fun p => p.toList.map fun i => xs.getD i .none) else none
noncomputable def Dm (x : D × D) : List (D × D) → Option (List (D × D)) := @fun aa => match aa with
 | [] => some [x]
 | y :: ys => match eu x.1 y.1 with
  | some true => some (x :: y :: ys)
  | some false => (match eu y.1 x.1 with | some true => (Dm x ys).map (y :: ·) | some false => some (x :: y :: ys) | none => none)
  | none => none
noncomputable def Gl : List (D × D) → Option (List (D × D)) := @fun aa => match aa with
 | [] => some []
 | x :: xs => (Gl xs).bind (Dm x)
noncomputable def fh (x : UInt64) : Option Int := match Float64.decode x with
 | .fin s m e => some (Float64.nearestOf s m e)
 | _ => none
noncomputable def cF (c : Nat) : List Nat → List (List Nat) := @fun aa => match aa with
 | [] => [[]]
 | x :: xs => if x == c then [] :: cF c xs else match cF c xs with
  | w :: ws => (x :: w) :: ws
  | [] => [[x]]
noncomputable def tO (x : D) : Option D := match x with
 | .str a => if a.length ≤ az then some (.int a.length) else none
 | .lst a => if a.length ≤ az then some (.int a.length) else none
 | .tup a => if a.length ≤ az then some (.int a.length) else none
 | _ => none
noncomputable def one (f : D → Option D) : List D → Option D := @fun aa => match aa with
 | [x] => f x
 | υ1 => none
noncomputable def pq (op : CmpOp) : List D → Option D := @fun aa => match aa with
 | [x] => (dW x).bind (bestOf op)
 | [a, b] => bestOf op [a, b]
 | [a, b, c] => bestOf op [a, b, c]
 | υ1 => none
noncomputable def wg : D → Option UInt64 := @fun aa => match aa with
 | .flt x => some x
 | υ1 => none
noncomputable def c9 (b : Bi) (ds : List D) : Option D := match b with
 | .len => one tO ds
 | .max => pq .Gt ds
 | .min => pq .Lt ds
 | .round => one (fun x => (wg x).bind fun a => (fh a).map .int) ds
 | .sum => one (fun x => (dW x).bind fun xs => (intsOf xs).map fun is => .int (sumInts is)) ds
 | .sorted => one (fun x => (dW x).bind fun xs => (qM xs).map .lst) ds
 | .tuple => one (fun x => (dW x).bind fun xs => if xs.length ≤ az then some (.tup xs) else none) ds
 | _ => none
noncomputable def fF (a b : Int) : List D := (List.range (b - a).toNat).map fun (k : Nat) => .int (a + (k : Int))
noncomputable abbrev af := List (Option D)
inductive aI where
 | next | brk | cont
 | ret (d : D)
structure Dl where
 fns : Nat → List D → Option D
 muts : Nat → List D → List D → Option (D × List D)
 new : D → Option D
 di : Bool := false
 aH : Bool := true
 key : Bool := false
noncomputable def cO (vars : af) (i : Nat) (d : D) : Option af := if i < vars.length then some (vars.set i (some d)) else none
noncomputable def cX : af → List Nat → List D → Option af := @fun aa ak aS => match aa, ak, aS with
 | vars, [], [] => some vars
 | vars, i :: is, d :: ds => (cO vars i d).bind fun v => cX v is ds
 | υ1, υ2, υ3 => none
noncomputable def cz (t : T) (d : D) (vars : af) : Option af := match t, d with
 | .var i, d => cO vars i d
 | .tup is, .tup ds => if is.length == ds.length then cX vars is ds else none
 | .tup is, .lst ds => if is.length == ds.length then cX vars is ds else none
 | _, _ => none
noncomputable def iJ : List T → D → af → Option af := @fun aa ak aS => match aa, ak, aS with
 | [], υ1, vars => some vars
 | t :: ts, d, vars => (cz t d vars).bind (iJ ts d)
noncomputable def n7 (σ : ae) : D → Bool := @fun aa => match aa with
 | .loc l => match σ[l]? with
  | some (some (.lst _)) => true
  | _ => false
 | υ1 => false
noncomputable def res (σ : ae) : D → Option D := @fun aa => match aa with
 | .loc l => match σ[l]? with
  | some (some (.lst xs)) => some (.lst xs)
  | _ => none
 | d => some d
noncomputable def jq (σ : ae) : List D → Option (List D) := @fun aa => match aa with
 | [] => some []
 | d :: ds => (res σ d).bind fun x => (jq σ ds).map (x :: ·)
noncomputable def cS (σ : ae) : D → Option (D × ae) := @fun aa => match aa with
 | .loc l => match σ[l]? with
  | some (some m) => some (m.toD, σ.set l none)
  | _ => none
 | d => some (d, σ)
noncomputable def bL : List Nat → List D := @fun aa => match aa with
 | [] => []
 | c :: r => .str [c] :: bL r
noncomputable def itemsOf : D → Option (List D) := @fun aa => match aa with
 | .lst xs => some xs
 | .tup xs => some xs
 | .str a => if a.all (· < 128) then some (bL a) else none
 | υ1 => none
noncomputable def jH (k : Nat) : List D → List D := @fun aa => match aa with
 | [] => []
 | x :: xs => .tup [.int k, x] :: jH (k + 1) xs
noncomputable def fY : List D → List D → List D := @fun aa ak => match aa, ak with
 | x :: xs, y :: ys => .tup [x, y] :: fY xs ys
 | υ1, υ2 => []
noncomputable def ia (r : aI × af × ae) (k : af → ae → Option (aI × af × ae)) : Option (aI × af × ae) := match r.1 with
 | .next => k r.2.1 r.2.2
 | .cont => k r.2.1 r.2.2
 | .brk => some (.next, r.2.1, r.2.2)
 | .ret d => some (.ret d, r.2.1, r.2.2)
noncomputable def cC (f : D → af → ae → Option (aI × af × ae)) : List D → af → ae → Option (aI × af × ae) := @fun aa ak aS => match aa, ak, aS with
 | [], vars, σ => some (.next, vars, σ)
 | d :: ds, vars, σ => (f d vars σ).bind fun r => ia r (cC f ds)
noncomputable def eV (c : af → ae → Option (Bool × ae)) (f : af → ae → Option (aI × af × ae)) : Nat → af → ae → Option (aI × af × ae) := @fun aa ak aS => match aa, ak, aS with
 | 0, υ1, υ2 => none
 | n + 1, vars, σ => (c vars σ).bind fun p => if p.1 then (f vars p.2).bind fun r => ia r (eV c f n) else some (.next, vars, p.2)
noncomputable def rY : Option D → List D → List D := @fun aa ak => match aa, ak with
 | some d, l => d :: l
 | none, l => l
noncomputable def d8 (f : D → af → ae → Option (Option D × af × ae)) : List D → af → ae → Option (List D × ae) := @fun aa ak aS => match aa, ak, aS with
 | [], υ1, σ => some ([], σ)
 | d :: ds, vars, σ => (f d vars σ).bind fun r => (d8 f ds r.2.1 r.2.2).map fun q => (rY r.1 q.1, q.2)
noncomputable def zY : Nat := 1000
noncomputable def dD (vars : af) (aq : List (Option Nat)) : Bool := aq.all fun o => match o with | some j => (vars[j]?.join).isSome | none => true
noncomputable def cP (vars : af) (aq : List (Option Nat)) : af := aq.map fun o => o.bind fun j => vars[j]?.join
noncomputable def seq1 {α β : Type} (f : ae → Option (α × ae)) (k : α → ae → Option β) (σ : ae) : Option β := (f σ).bind fun p => k p.1 p.2
noncomputable def iU (σ : ae) : D → Option (Nat × List D) := @fun aa => match aa with
 | .loc l => (match σ[l]? with
  | some (some (.lst xs)) => some (l, xs)
  | _ => none)
 | υ1 => none
noncomputable def n6 (σ : ae) : D → Option (Nat × List (Nat × D)) := @fun aa => match aa with
 | .loc l => (match σ[l]? with
  | some (some (.inst as)) => some (l, as)
  | _ => none)
 | υ1 => none
noncomputable def ql : D → Option (List (Nat × D)) := @fun aa => match aa with
 | .inst as => some as
 | υ1 => none
noncomputable def attrsOf (σ : ae) (x : D) : Option (List (Nat × D)) := match ql x with
 | some as => some as
 | none => (n6 σ x).map (·.2)
noncomputable def tG : D → Bool := @fun aa => match aa with
 | .none => true
 | υ1 => false
noncomputable def jo : List D → Option (Int × Int) := @fun aa => match aa with
 | [x] => (intD x).bind fun b => if small b && decide (b.toNat ≤ az) then some (0, b) else none
 | [x, y] => (intD x).bind fun a => (intD y).bind fun b => if small a && small b && decide ((b - a).toNat ≤ az) then some (a, b) else none
 | υ1 => none
noncomputable def iQ (Δ : Dl) (d : D) (σ : ae) : Option (D × ae) := if ji d && !Δ.aH then none else some (d, σ)
noncomputable def nu (op : Operator) (x y : D) : Option (List D × List D) := match op with
 | .Add => (dW x).bind fun xs => (dW y).map fun ys => (xs, ys)
 | _ => none
noncomputable def jB (Δ : Dl) (op : Operator) (x y : D) (σ : ae) : Option (D × ae) := match nu op x y with
 | some p => if p.1.length + p.2.length ≤ az then some (.loc σ.length, σ ++ [some (.lst (p.1 ++ p.2))]) else none
 | none => (dH op x y).bind fun d => iQ Δ d σ
noncomputable def nB (Δ : Dl) (op : Operator) (x y : D) (σ : ae) : Option (D × ae) := (res σ x).bind fun x => (res σ y).bind fun y => jB Δ op x y σ
noncomputable def y9 (x y : D) (σ : ae) : Option (D × ae) := (intD y).bind fun i => if small i && decide (i.toNat ≤ az) then some (.lst (List.replicate i.toNat x), σ) else none
noncomputable def g8 (x : D) (σ : ae) : Option Bool := (res σ x).bind oO
noncomputable def b8 (op : CmpOp) (x y : D) : Option Bool := match op with
 | .In => inD x y
 | .NotIn => (inD x y).map (!·)
 | _ => if x.dep ≤ 50 then cQ op x y else none
noncomputable def vE (op : CmpOp) (x y : D) (σ : ae) : Option (D × ae) := (res σ x).bind fun x => (res σ y).bind fun y => (b8 op x y).map fun t => (.bool t, σ)
noncomputable def tupK (ds : List D) (σ : ae) : Option (D × ae) := if ds.length ≤ az then some (.tup ds, σ) else none
noncomputable def lstK (ds : List D) (σ : ae) : Option (D × ae) := if ds.length ≤ az then (if ds.length ≤ 1 then some (.loc σ.length, σ ++ [some (.lst ds)]) else some (.lst ds, σ)) else none
noncomputable def xx (x y : D) (σ : ae) : Option (D × ae) := (res σ x).bind fun x => (De x y).map fun d => (d, σ)
noncomputable def qK (x : D) (lo hi st : Option Int) (σ : ae) : Option (D × ae) := (res σ x).bind fun x => (mR x lo hi st).map fun d => (d, σ)
noncomputable def AF (k : Nat) (x : D) (σ : ae) : Option (D × ae) := (attrsOf σ x).bind fun as => (as.lookup k).map fun d => (d, σ)
noncomputable def lI (Δ : Dl) (f : Nat) (ds : List D) (σ : ae) : Option (D × ae) := if D.aL ds then (Δ.fns f ds).map fun d => (d, σ) else none
noncomputable def yf (Δ : Dl) (f : Nat) (x : D) (ds : List D) (σ : ae) : Option (D × ae) := (ql x).bind fun as => lI Δ f (.inst as :: ds) σ
noncomputable def yd (Δ : Dl) (f : Nat) (x : D) (ds : List D) (σ : ae) : Option (D × ae) := (iU σ x).bind fun p => if D.aL ds && D.aL p.2 then (Δ.muts f p.2 ds).bind fun q => some (q.1, σ.set p.1 (some (.lst q.2))) else none
noncomputable def t8 (Δ : Dl) (x : D) (σ : ae) : Option (D × ae) := if x.pure then (Δ.new x).map fun d => (d, σ) else none
noncomputable def jb (b : Bi) (ds : List D) (σ : ae) : Option (D × ae) := (jq σ ds).bind fun ds => (c9 b ds).map fun d => (d, σ)
noncomputable def vc (x y : D) (σ : ae) : Option (D × ae) := (iU σ x).bind fun p => if p.2.length < az then some (.none, σ.set p.1 (some (.lst (p.2 ++ [y])))) else none
noncomputable def yP (x : D) (σ : ae) : Option (D × ae) := (iU σ x).bind fun p => if p.2.length ≤ az then p.2.getLast?.map fun y => (y, σ.set p.1 (some (.lst p.2.dropLast))) else none
noncomputable def E4 : List Nat → Option Nat := @fun aa => match aa with
 | [c] => some c
 | υ1 => none
noncomputable def zw (x y : D) (σ : ae) : Option (D × ae) := (zz x).bind fun s => (zz y).bind fun c => (E4 c).bind fun c => if s.length ≤ az then some (.lst ((cF c s).map .str), σ) else none
noncomputable def ur (ds : List D) (σ : ae) : Option (List D × ae) := (jo ds).map fun p => (fF p.1 p.2, σ)
noncomputable def BB (x : D) (σ : ae) : Option (List D × ae) := (cS σ x).bind fun p => (dW p.1).bind fun xs => if xs.length ≤ az then some (jH 0 xs, p.2) else none
noncomputable def uS (x y : D) (σ : ae) : Option (List D × ae) := (cS σ y).bind fun q => (dW x).bind fun xs => (dW q.1).bind fun ys => if xs.length ≤ az ∧ ys.length ≤ az then some (fY xs ys, q.2) else none
noncomputable def jj (x : D) (σ : ae) : Option (List D × ae) := (cS σ x).bind fun p => (itemsOf p.1).bind fun ds => if ds.length ≤ az then some (ds, p.2) else none
mutual
noncomputable def ah (Δ : Dl) : Nat → E → af → ae → Option (D × ae) := @fun aa ak aS bQ => match aa, ak, aS, bQ with
 | 0, υ1, υ2, υ3 => none
 | n + 1, e, vars, σ => match e with
  | .lit d => iQ Δ d σ
  | .var i => (vars[i]?.join).map fun d => (d, σ)
  | .bin op a b => seq1 (ah Δ n a vars) (fun x => seq1 (ah Δ n b vars) (nB Δ op x)) σ
  | .rep a k => seq1 (ah Δ n a vars) (fun x => seq1 (ah Δ n k vars) (y9 x)) σ
  | .not _ => none
  | .both a b => seq1 (ah Δ n a vars) (fun x σ => (g8 x σ).bind fun t => if t then ah Δ n b vars σ else some (x, σ)) σ
  | .either a b => seq1 (ah Δ n a vars) (fun x σ => (g8 x σ).bind fun t => if t then some (x, σ) else ah Δ n b vars σ) σ
  | .cmp op a b => seq1 (ah Δ n a vars) (fun x => seq1 (ah Δ n b vars) (vE op x)) σ
  | .ite c a b => seq1 (aX Δ n c vars) (fun t σ => if t then ah Δ n a vars σ else ah Δ n b vars σ) σ
  | .tup es => seq1 (bA Δ n es vars) tupK σ
  | .lst es => seq1 (bA Δ n es vars) lstK σ
  | .idx a i => seq1 (ah Δ n a vars) (fun x => seq1 (ah Δ n i vars) (xx x)) σ
  | .eT a lo hi st => seq1 (ah Δ n a vars) (fun x => seq1 (fJ Δ n lo vars) fun lo => seq1 (fJ Δ n hi vars) fun hi => seq1 (fJ Δ n st vars) (qK x lo hi)) σ
  | .attr a k => seq1 (ah Δ n a vars) (AF k) σ
  | .call f es => seq1 (bA Δ n es vars) (lI Δ f) σ
  | .bW f o es => seq1 (ah Δ n o vars) (fun x => seq1 (bA Δ n es vars) (yf Δ f x)) σ
  | .eN f o es => seq1 (ah Δ n o vars) (fun x => seq1 (bA Δ n es vars) (yd Δ f x)) σ
  | .new a => seq1 (ah Δ n a vars) (t8 Δ) σ
  | .bi b es => if b == .sorted && !Δ.di then none else seq1 (bA Δ n es vars) (jb b) σ
  | .kJ es => seq1 (bA Δ n es vars) (fun ds σ => (jo ds).map fun p => (.lst (fF p.1 p.2), σ)) σ
  | .range _ => none
  | .enum _ => none
  | .zip _ _ => none
  | .append o a => seq1 (ah Δ n o vars) (fun x σ => if n7 σ x then seq1 (ah Δ n a vars) (vc x) σ else none) σ
  | .pop o => seq1 (ah Δ n o vars) yP σ
  | .split o a => seq1 (ah Δ n o vars) (fun x => seq1 (ah Δ n a vars) (zw x)) σ
  | .comp aq elt t it ifs => seq1 (ef Δ n it vars) (fun ds σ =>
   if dD vars aq && decide (ds.length ≤ az) then (d8 (fun d vs σ => (cz t d vs).bind fun vs => (iD Δ n ifs vs σ).bind fun (ok, σ) => if ok then (ah Δ n elt vs σ).map fun (r, σ) => (some r, vs, σ) else some (none, vs, σ)) ds (cP vars aq) σ).map fun p => (.lst p.1, p.2) else none) σ
  | .sortKey a aq key => if !Δ.key then none else seq1 (ah Δ n a vars) (fun x σ => (res σ x).bind fun x => (dW x).bind fun xs =>
   if !(dD vars aq && decide (xs.length ≤ az)) then none else (d8 (fun d vs σ => (ah Δ n key (vs.set 0 (some d)) σ).map fun (r, σ) => (some r, vs, σ)) xs (cP vars aq) σ).bind fun p => (Gl (p.1.zip xs)).map fun r => (.lst (r.map (·.2)), p.2)) σ
noncomputable def fJ (Δ : Dl) : Nat → Option E → af → ae → Option (Option Int × ae) := @fun aa ak aS bQ => match aa, ak, aS, bQ with
 | 0, υ1, υ2, υ3 => none
 | υ1 + 1, none, υ2, σ => some (none, σ)
 | n + 1, some e, vars, σ => seq1 (ah Δ n e vars) (fun x σ => (intD x).map fun i => (some i, σ)) σ
noncomputable def bA (Δ : Dl) : Nat → List E → af → ae → Option (List D × ae) := @fun aa ak aS bQ => match aa, ak, aS, bQ with
 | 0, υ1, υ2, υ3 => none
 | υ1 + 1, [], υ2, σ => some ([], σ)
 | n + 1, e :: es, vars, σ => seq1 (ah Δ n e vars) (fun d => seq1 (bA Δ n es vars) fun ds σ => some (d :: ds, σ)) σ
noncomputable def aX (Δ : Dl) : Nat → E → af → ae → Option (Bool × ae) := @fun aa ak aS bQ => match aa, ak, aS, bQ with
 | 0, υ1, υ2, υ3 => none
 | n + 1, e, vars, σ => match e with
  | .not a => seq1 (aX Δ n a vars) (fun b σ => some (!b, σ)) σ
  | .both a b => seq1 (aX Δ n a vars) (fun t σ => if t then aX Δ n b vars σ else some (false, σ)) σ
  | .either a b => seq1 (aX Δ n a vars) (fun t σ => if t then some (true, σ) else aX Δ n b vars σ) σ
  | .ite _ _ _ => none
  | e => seq1 (ah Δ n e vars) (fun x σ => (g8 x σ).map fun t => (t, σ)) σ
noncomputable def iD (Δ : Dl) : Nat → List E → af → ae → Option (Bool × ae) := @fun aa ak aS bQ => match aa, ak, aS, bQ with
 | 0, υ1, υ2, υ3 => none
 | υ1 + 1, [], υ2, σ => some (true, σ)
 | n + 1, e :: es, vars, σ => seq1 (aX Δ n e vars) (fun t σ => if t then iD Δ n es vars σ else some (false, σ)) σ
noncomputable def ef (Δ : Dl) : Nat → E → af → ae → Option (List D × ae) := @fun aa ak aS bQ => match aa, ak, aS, bQ with
 | 0, υ1, υ2, υ3 => none
 | n + 1, e, vars, σ => match e with
  | .range es => seq1 (bA Δ n es vars) ur σ
  | .enum a => seq1 (ah Δ n a vars) BB σ
  | .zip a b => seq1 (ah Δ n a vars) (fun x σ => (cS σ x).bind fun p => seq1 (ah Δ n b vars) (uS p.1) p.2) σ
  | e => seq1 (ah Δ n e vars) jj σ
end
noncomputable def zj (k : Nat) (vars : af) (d x : D) (σ : ae) : Option (aI × af × ae) := (n6 σ x).bind fun p => if p.2.lookup k = none ∧ p.2.length < 20 then some (.next, vars, σ.set p.1 (some (.inst (p.2 ++ [(k, d)])))) else none
noncomputable def uF (vars : af) (d x y : D) (σ : ae) : Option (aI × af × ae) := (iU σ x).bind fun p => (intD y).bind fun i => if 0 ≤ i ∧ small i ∧ i.toNat < p.2.length then some (.next, vars, σ.set p.1 (some (.lst (p.2.set i.toNat d)))) else none
mutual
noncomputable def bK (Δ : Dl) : Nat → S → af → ae → Option (aI × af × ae) := @fun aa ak aS bQ => match aa, ak, aS, bQ with
 | 0, υ1, υ2, υ3 => none
 | n + 1, st, vars, σ => match st with
  | .asg ts e => seq1 (ah Δ n e vars) (fun d σ => (iJ ts d vars).map fun vars => (.next, vars, σ)) σ
  | .setAttr o k e => seq1 (ah Δ n e vars) (fun d => seq1 (ah Δ n o vars) (zj k vars d)) σ
  | .dJ o i e => seq1 (ah Δ n e vars) (fun d => seq1 (ah Δ n o vars) fun x => seq1 (ah Δ n i vars) (uF vars d x)) σ
  | .expr e => seq1 (ah Δ n e vars) (fun d σ => if tG d then some (.next, vars, σ) else none) σ
  | .ret e => seq1 (ah Δ n e vars) (fun d σ => (cS σ d).map fun p => (.ret p.1, vars, p.2)) σ
  | .ite c a b => seq1 (aX Δ n c vars) (fun t σ => if t then aJ Δ n a vars σ else aJ Δ n b vars σ) σ
  | .wh c b => eV (fun vars σ => aX Δ n c vars σ) (fun vars σ => aJ Δ n b vars σ) zY vars σ
  | .for t it b => seq1 (ef Δ n it vars) (fun ds σ => cC (fun d vars σ => (cz t d vars).bind fun vars => aJ Δ n b vars σ) ds vars σ) σ
  | .brk => some (.brk, vars, σ)
  | .cont => some (.cont, vars, σ)
noncomputable def aJ (Δ : Dl) : Nat → List S → af → ae → Option (aI × af × ae) := @fun aa ak aS bQ => match aa, ak, aS, bQ with
 | 0, υ1, υ2, υ3 => none
 | υ1 + 1, [], vars, σ => some (.next, vars, σ)
 | n + 1, s :: ss, vars, σ => match bK Δ n s vars σ with
  | some (.next, vars, σ) => aJ Δ n ss vars σ
  | r => r
end
structure Fn where
 nv : Nat
 np : Nat
 body : List S
noncomputable def look (σ : ae) (l : Nat) : Option cN := σ[l]?.join
noncomputable def cZ (f : Fn) (args : List D) : af := args.map some ++ List.replicate (f.nv - f.np) none
noncomputable def By : Option (aI × af × ae) → Option D := @fun aa => match aa with
 | some (.ret d, υ1, υ2) => some d
 | υ1 => none
noncomputable def vM : Option (aI × af × ae) → Option (D × ae) := @fun aa => match aa with
 | some (.ret d, υ1, σ) => some (d, σ)
 | some (.next, υ1, σ) => some (.none, σ)
 | υ1 => none
noncomputable def Bx : Option (aI × af × ae) → Option ae := @fun aa => match aa with
 | some (.next, υ1, σ) => some σ
 | υ1 => none
noncomputable def oq (σ : ae) : Option (List D) := match look σ 0 with
 | some (.lst ys) => some ys
 | _ => none
noncomputable def oh (σ : ae) : Option (List (Nat × D)) := match look σ 0 with
 | some (.inst as) => some as
 | _ => none
noncomputable def cM (Δ : Dl) (n : Nat) (f : Fn) (args : List D) : Option D :=
 if args.length == f.np && D.aL args then
  (By (aJ Δ n f.body (cZ f args) [])).bind fun d => if d.pure then some d else none
 else none
noncomputable def eR (Δ : Dl) (n : Nat) (f : Fn) (xs : List D) (args : List D) : Option (D × List D) :=
 if (args.length + 1 == f.np && D.aL args) && D.aL xs then
  (vM (aJ Δ n f.body (cZ f (.loc 0 :: args)) [some (.lst xs)])).bind fun p => (oq p.2).bind fun ys => if p.1.pure && D.aL ys then some (p.1, ys) else none
 else none
noncomputable def oJ (Δ : Dl) (n : Nat) (f : Fn) (a : D) : Option D :=
 if f.np == 2 && a.pure then
  (Bx (aJ Δ n f.body (cZ f [.loc 0, a]) [some (.inst [])])).bind fun σ => (oh σ).bind fun as => if D.bF as then some (.inst as) else none
 else none
end Ev
namespace Ev
end Ev
end
section
namespace Ev
open PySem
structure Cc where
 fns : List Str
 muts : List Str
 meths : List Str
 cls : Str
 cattrs : List (Str × List Nat)
noncomputable def tZ : Nat := 100
noncomputable abbrev Nm := List (Str × NameKind)
noncomputable def fM : Nm → Str → Option (Nat × NameKind) := @fun aa ak => match aa, ak with
 | [], υ1 => none
 | (y, k) :: r, x => if x == y then some (0, k) else (fM r x).map fun (i, k) => (i + 1, k)
noncomputable def iC : List Str → Str → Option Nat := @fun aa ak => match aa, ak with
 | [], υ1 => none
 | y :: r, x => if x == y then some 0 else (iC r x).map (· + 1)
noncomputable def ug (x : Str) : Bool := !(x == ("__debug__" : Str)) && !(x == ("__classdict__" : Str))
noncomputable def nI (nm : Nm) (x : Str) : Option Nat := match fM nm x with
 | some (i, .local) => if ug x then some i else none
 | some (i, .cell) => if ug x then some i else none
 | some (i, .free) => if ug x then some i else none
 | _ => none
noncomputable def ie (nm : Nm) (x : Str) : Option Nat := match fM nm x with
 | some (i, .local) => some i
 | some (i, .cell) => some i
 | _ => none
noncomputable def cu (nm : Nm) (x : Str) : Bool := match fM nm x with
 | some (_, .globalImplicit) => !(x == ("__debug__" : Str))
 | _ => false
noncomputable def cU : Bi → Str := @fun aa => match aa with
 | .len => "len" | .max => "max" | .min => "min" | .round => "round" | .sum => "sum" | .sorted => "sorted" | .list => "list" | .tuple => "tuple"
 | .range => "range" | .enumerate => "enumerate" | .zip => "zip"
noncomputable def nH : Const → Option D := @fun aa => match aa with
 | .none => some .none
 | .bool b => some (.bool b)
 | .int i => some (.int i)
 | .float x => some (.flt x)
 | .str s => some (.str s.cps.toList)
 | υ1 => none
noncomputable def iK (x : Str) : Option Nat := (List.range 5).find? fun k => x == attrName k
noncomputable def fg : Expr → Bool := @fun aa => match aa with
 | .Call υ1 as υ2 υ3 => !as.isEmpty
 | υ1 => true
noncomputable def kI (it : E) (t : T) : Bool := match it, t with
 | .enum _, .var _ => false
 | .zip _ _, .var _ => false
 | _, _ => true
noncomputable def fG (sc : Scope) : Bool := sc.kind == .function && decide ((sc.names.map (·.1)).Nodup) && sc.names.all (fun x => x.2 != .globalExplicit)
noncomputable def o7 : Expr → Bool := @fun aa => match aa with
 | .Tuple vs υ1 υ2 => vs.all (foldedForSure 8) || !(vs.all (constantsAlone 8))
 | υ1 => true
noncomputable def dN (nm inner : Nm) : Option (List (Option Nat)) := inner.mapM fun (x, k) => match k with
 | .free => (match fM nm x with
  | some (i, .cell) => some (some i)
  | some (i, .free) => some (some i)
  | _ => none)
 | _ => some none
noncomputable def gz : Expr → Bool := @fun aa => match aa with
 | .Constant υ1 υ2 υ3 => true
 | .Name υ1 υ2 => true
 | .BoolOp υ1 υ2 υ3 => true
 | .BinOp υ1 υ2 υ3 υ4 => true
 | .UnaryOp υ1 υ2 υ3 => true
 | .IfExp υ1 υ2 υ3 υ4 => true
 | .Compare υ1 υ2 υ3 υ4 => true
 | .Tuple υ1 υ2 υ3 => true
 | .List υ1 υ2 => true
 | .Subscript υ1 υ2 υ3 => true
 | .Attribute υ1 υ2 υ3 => true
 | .Call υ1 υ2 υ3 υ4 => true
 | .ListComp υ1 υ2 υ3 υ4 => true
 | υ1 => false
noncomputable def zA (d : D) (s : List Nat) : Bool := match d with
 | .str s' => s == s'
 | _ => false
noncomputable def rL {α : Type} (f : α → Bool) : Option α → Bool := @fun aa => match aa with
 | some a => f a
 | none => false
noncomputable def isLit (C : Cc) (nm : Nm) (d : D) : Expr → Bool := @fun aa => match aa with
 | .Constant c υ1 υ2 => rL (D.beq · d) (nH c)
 | .Attribute (.Name x υ1) y υ2 => cu nm x && x == C.cls && rL (zA d) (C.cattrs.lookup y)
 | υ1 => false
noncomputable def isVar (nm : Nm) (i : Nat) : Expr → Bool := @fun aa => match aa with
 | .Name x υ1 => nI nm x == some i
 | υ1 => false
noncomputable def Dw (op : Operator) (f g : Expr → Bool) : Expr → Bool := @fun aa => match aa with
 | .BinOp a o b υ1 => decide (o = op) && (f a && g b)
 | υ1 => false
noncomputable def DL (f g : Expr → Bool) : Expr → Bool := @fun aa => match aa with
 | .BinOp (.List [a] υ1) o b υ2 => decide (o = .Mult) && (f a && g b)
 | υ1 => false
noncomputable def DU (op : UnaryOp) (f : Expr → Bool) : Expr → Bool := @fun aa => match aa with
 | .UnaryOp o a υ1 => decide (o = op) && f a
 | υ1 => false
noncomputable def isBool (op : BoolOp) (f g : Expr → Bool) : Expr → Bool := @fun aa => match aa with
 | .BoolOp o [a, b] υ1 => decide (o = op) && (f a && g b)
 | υ1 => false
noncomputable def xJ (op : CmpOp) (f g : Expr → Bool) : Expr → Bool := @fun aa => match aa with
 | .Compare a [o] [b] υ1 => decide (o = op) && (f a && g b)
 | υ1 => false
noncomputable def DG (f g h : Expr → Bool) : Expr → Bool := @fun aa => match aa with
 | .IfExp c a b υ1 => f c && (g a && h b)
 | υ1 => false
noncomputable def isTup (f : List Expr → Bool) : Expr → Bool := @fun aa => match aa with
 | .Tuple es υ1 υ2 => f es
 | υ1 => false
noncomputable def DJ (f : List Expr → Bool) : Expr → Bool := @fun aa => match aa with
 | .List es υ1 => f es
 | υ1 => false
noncomputable def DF (f g : Expr → Bool) : Expr → Bool := @fun aa => match aa with
 | .Subscript a i υ1 => f a && g i
 | υ1 => false
noncomputable def DP (f : Expr → Bool) (g1 g2 g3 : Option Expr → Bool) : Expr → Bool := @fun aa => match aa with
 | .Subscript a (.Slice l u s υ1) υ2 => f a && (g1 l && (g2 u && g3 s))
 | υ1 => false
noncomputable def Dv (k : Nat) (f : Expr → Bool) : Expr → Bool := @fun aa => match aa with
 | .Attribute a y υ1 => fg a && (iK y == some k && f a)
 | υ1 => false
noncomputable def qo (m : Str → Bool) (f : Expr → Bool) (g : List Expr → Bool) : Expr → Bool := @fun aa => match aa with
 | .Call (.Attribute o y ap) args [] cp => (fg o && ap.endLine == cp.line) && (decide (args.length < 29) && (m y && (f o && g args)))
 | υ1 => false
noncomputable def isCall (nm : Nm) (p : Str → Bool) (g : List Expr → Bool) : Expr → Bool := @fun aa => match aa with
 | .Call (.Name x υ1) args [] υ2 => cu nm x && (p x && g args)
 | υ1 => false
noncomputable def b9 (nm : Nm) (t : T) (x : Expr) : Bool := match t with
 | .var i => (match x with | .Name y _ => ie nm y == some i | _ => false)
 | .tup is => (match x with | .Tuple es _ _ => isTs nm is es | _ => false)
where isTs (nm : Nm) : List Nat → List Expr → Bool
 | [], [] => true
 | i :: is, e :: es => (match e with | .Name y _ => ie nm y == some i | _ => false) && isTs nm is es
 | _, _ => false
noncomputable def DB (nm : Nm) (aq : List (Option Nat)) (T : Ev.T) (JF : Expr → Bool) (pR : Nm → List Expr → Bool) (pQ : Nm → Expr → Bool) (qm : Bool) : Expr → Bool := @fun aa => match aa with
 | .ListComp elt [⟨t, it, ifs, k⟩] sc υ1 => (decide (k = 0) && fG sc) && (qm && ((dN nm sc.names == some aq && b9 sc.names T t) && (JF it && (pR sc.names ifs && pQ sc.names elt))))
 | υ1 => false
noncomputable def L4 (f : Expr → Bool) : List Expr → Bool := @fun aa => match aa with
 | [x] => f x
 | υ1 => false
mutual
noncomputable def bw (C : Cc) : Nat → E → Nm → Expr → Bool := @fun aa ak aS bQ => match aa, ak, aS, bQ with
 | 0, υ1, υ2, υ3 => false
 | n + 1, e, nm, x => gz x && match e with
  | .lit d => isLit C nm d x
  | .var i => isVar nm i x
  | .bin op a b => Dw op (bw C n a nm) (bw C n b nm) x
  | .rep a b => DL (bw C n a nm) (bw C n b nm) x
  | .not a => DU .Not (bw C n a nm) x
  | .both a b => isBool .And (bw C n a nm) (bw C n b nm) x
  | .either a b => isBool .Or (bw C n a nm) (bw C n b nm) x
  | .cmp op a b => xJ op (bw C n a nm) (bw C n b nm) x
  | .ite c a b => DG (bw C n c nm) (bw C n a nm) (bw C n b nm) x
  | .tup es => isTup (dY C n es nm) x
  | .lst es => DJ (dY C n es nm) x
  | .idx a i => DF (bw C n a nm) (bw C n i nm) x
  | .eT a l u s => DP (bw C n a nm) (pC C n l nm) (pC C n u nm) (pC C n s nm) x
  | .attr a k => Dv k (bw C n a nm) x
  | .call f es => isCall nm (fun y => iC C.fns y == some f) (dY C n es nm) x
  | .eN f o es => isCall nm (fun y => iC C.muts y == some f) (dY C n (o :: es) nm) x
  | .bW f o es => qo (fun y => (iC C.meths y).map (tZ + ·) == some f) (bw C n o nm) (dY C n es nm) x
  | .new a => isCall nm (fun y => y == C.cls) (dY C n [a] nm) x
  | .bi b es => isCall nm (fun y => y == cU b) (dY C n es nm) x
  | .append o a => qo (fun y => y == ("append" : Str)) (bw C n o nm) (dY C n [a] nm) x
  | .pop o => qo (fun y => y == ("pop" : Str)) (bw C n o nm) (dY C n [] nm) x
  | .range es => isCall nm (fun y => y == cU .range) (dY C n es nm) x
  | .kJ es => isCall nm (fun y => y == cU .list) (L4 fun x => gz x && isCall nm (fun y => y == cU .range) (dY C n es nm) x) x
  | .enum a => isCall nm (fun y => y == cU .enumerate) (dY C n [a] nm) x
  | .zip a b => isCall nm (fun y => y == cU .zip) (dY C n [a, b] nm) x
  | .comp aq elt t it ifs => DB nm aq t (bw C n it nm) (dY C n ifs) (bw C n elt) (kI it t) x
  | .split o a => qo (fun y => y == ("split" : Str)) (bw C n o nm) (dY C n [a] nm) x
  | .sortKey _ _ _ => false
noncomputable def dY (C : Cc) : Nat → List E → Nm → List Expr → Bool := @fun aa ak aS bQ => match aa, ak, aS, bQ with
 | 0, υ1, υ2, υ3 => false
 | n + 1, es, nm, xs => match es, xs with
  | [], [] => true
  | e :: es, x :: xs => bw C n e nm x && dY C n es nm xs
  | _, _ => false
noncomputable def pC (C : Cc) : Nat → Option E → Nm → Option Expr → Bool := @fun aa ak aS bQ => match aa, ak, aS, bQ with
 | 0, υ1, υ2, υ3 => false
 | n + 1, e, nm, x => match e, x with
  | none, none => true
  | some e, some x => bw C n e nm x
  | _, _ => false
end
noncomputable def jD (nm : Nm) : List T → List Expr → Bool := @fun aa ak => match aa, ak with
 | [], [] => true
 | t :: ts, x :: xs => b9 nm t x && jD nm ts xs
 | υ1, υ2 => false
noncomputable def xG (f : List Expr → Bool) (g : Expr → Bool) : Stmt → Bool := @fun aa => match aa with
 | .Assign ts v υ1 => o7 v && (f ts && g v)
 | υ1 => false
noncomputable def DN (k : Nat) (f g : Expr → Bool) : Stmt → Bool := @fun aa => match aa with
 | .Assign [.Attribute o y υ1] v υ2 => iK y == some k && (f o && g v)
 | υ1 => false
noncomputable def DO (f g h : Expr → Bool) : Stmt → Bool := @fun aa => match aa with
 | .Assign [.Subscript o i υ1] v υ2 => f o && (g i && h v)
 | υ1 => false
noncomputable def DE (f : Expr → Bool) : Stmt → Bool := @fun aa => match aa with
 | .Expr (.Call a b c d) υ1 => f (.Call a b c d)
 | υ1 => false
noncomputable def DM (f : Expr → Bool) : Stmt → Bool := @fun aa => match aa with
 | .Return (some v) υ1 => f v
 | υ1 => false
noncomputable def xM (f : Expr → Bool) (g h : List Stmt → Bool) : Stmt → Bool := @fun aa => match aa with
 | .If c a b υ1 => f c && (g a && h b)
 | υ1 => false
noncomputable def DV (f : Expr → Bool) (g : List Stmt → Bool) : Stmt → Bool := @fun aa => match aa with
 | .While c b [] υ1 => f c && g b
 | υ1 => false
noncomputable def xK (nm : Nm) (t : T) (f : Expr → Bool) (g : List Stmt → Bool) : Stmt → Bool := @fun aa => match aa with
 | .For x it b [] υ1 => b9 nm t x && (f it && g b)
 | υ1 => false
noncomputable def Dy : Stmt → Bool := @fun aa => match aa with
 | .Break υ1 => true
 | υ1 => false
noncomputable def DC : Stmt → Bool := @fun aa => match aa with
 | .Continue υ1 => true
 | υ1 => false
mutual
noncomputable def lJ (C : Cc) : Nat → S → Nm → Stmt → Bool := @fun aa ak aS bQ => match aa, ak, aS, bQ with
 | 0, υ1, υ2, υ3 => false
 | n + 1, s, nm, x => match s with
  | .asg ts e => xG (jD nm ts) (bw C n e nm) x
  | .setAttr o k e => DN k (bw C n o nm) (bw C n e nm) x
  | .dJ o i e => DO (bw C n o nm) (bw C n i nm) (bw C n e nm) x
  | .expr e => DE (bw C n e nm) x
  | .ret e => DM (bw C n e nm) x
  | .ite c a b => xM (bw C n c nm) (dQ C n a nm) (dQ C n b nm) x
  | .wh c b => DV (bw C n c nm) (dQ C n b nm) x
  | .for t it b => kI it t && xK nm t (bw C n it nm) (dQ C n b nm) x
  | .brk => Dy x
  | .cont => DC x
noncomputable def dQ (C : Cc) : Nat → List S → Nm → List Stmt → Bool := @fun aa ak aS bQ => match aa, ak, aS, bQ with
 | 0, υ1, υ2, υ3 => false
 | n + 1, ss, nm, xs => match ss, xs with
  | [], [] => true
  | s :: ss, x :: xs => lJ C n s nm x && dQ C n ss nm xs
  | _, _ => false
end
noncomputable def yN (p : Arguments) : Bool := p.posonlyargs.isEmpty && (p.vararg.isNone && (p.kwonlyargs.isEmpty && (p.kw_defaults.isEmpty && (p.kwarg.isNone && p.defaults.isEmpty))))
noncomputable def xO : Value → Bool := @fun aa => match aa with
 | .none => true
 | υ1 => false
noncomputable def sQ (kg : Nm → List Stmt → Bool) (fn : Fn) (fd : FuncData) : Bool :=
 (yN fd.params && (fd.closure.isEmpty && xO fd.defaults)) && ((fd.globals == mainGlobals && fd.builtins == builtinsNs) && ((!fd.scope.isGenerator && !fd.scope.isCoroutine) && (fd.scope.kind == .function &&
  (decide ((fd.scope.names.map (·.1)).Nodup) && (decide ((fd.scope.names.map (·.1)).take fd.params.args.length = fd.params.args.map (·.arg)) &&
   ((fd.scope.names.take fd.params.args.length).all (fun x => x.2 == .local || x.2 == .cell) && (fd.scope.names.all (fun x => x.2 != .free && x.2 != .globalExplicit) &&
    ((decide (fn.nv = fd.scope.names.length) && decide (fn.np = fd.params.args.length)) && (match fd.body with | .stmts b => kg fd.scope.names b | _ => false)))))))))
noncomputable def Cg (C : Cc) (fn : Fn) (fd : FuncData) : Bool := sQ (dQ C 200 fn.body) fn fd
end Ev
end
section
namespace Ev
open PySem PySem.W PySem.Calls PyProof.Rows
structure Good (n : Nat) (A : Around) : Prop where
 hh : A.handled = none
 depth : A.depth + n < recursionLimit
 units : A.units + 10 * n + 100 < cLine
theorem Good.le {n m : Nat} {A : Around} (g : Good n A) (h : m ≤ n) : Good m A := ⟨g.hh, by have := g.depth; lia, by have := g.units; lia⟩
theorem Good.in1 {n : Nat} {A : Around} (g : Good (n + 1) A) : Good n A.in1 := ⟨g.hh, by have := g.depth; show A.depth + n < _; lia, by have := g.units; show A.units + 1 + _ + _ < _; lia⟩
theorem Good.deeper {n : Nat} {A : Around} {env : Env} (g : Good (n + 1) A) : Good n (A.deeper env) := ⟨g.hh, by have := g.depth; show A.depth + 1 + n < _; lia, by have := g.units; show A.units + 3 + _ + _ < _; lia⟩
theorem Good.room {n : Nat} {A : Around} (g : Good n A) : A.depth < recursionLimit := by have := g.depth; lia
structure Kp (s s' : Shared) : Prop where
 heap : ∀ b o, s.heap.get? b = some o → s'.heap.get? b = some o
 gens : s'.gens = s.gens
 os : s'.os = s.os
 toks : s.toks ≤ s'.toks
theorem Kp.rfl {s : Shared} : Kp s s := ⟨fun ξ ξ e => e, Eq.refl _, Eq.refl _, Nat.le_refl _⟩
theorem Kp.tok {s : Shared} : Kp s { s with toks := s.toks + 1 } := ⟨fun ξ ξ e => e, Eq.refl _, Eq.refl _, Nat.le_succ _⟩
theorem Kp.toks' {s : Shared} {t : Nat} (h : s.toks ≤ t) : Kp s { s with toks := t } := ⟨fun ξ ξ e => e, Eq.refl _, Eq.refl _, h⟩
theorem Kp.push {s : Shared} {o : Obj} : Kp s { s with heap := s.heap.push o } := ⟨fun ξ ξ e => Heap.get?_push_of_some _ e, Eq.refl _, Eq.refl _, Nat.le_refl _⟩
theorem Kp.mk' {s : Shared} {h' : Heap} {tk : Nat} (h : ∀ b o, s.heap.get? b = some o → h'.get? b = some o) (ht : s.toks ≤ tk) : Kp s { s with heap := h', toks := tk } := ⟨h, Eq.refl _, Eq.refl _, ht⟩
structure W (c : Cx) (nm : Nm) (X : aT) (env : Env) (fa : List (Option Addr)) (F : FM) (ρ : List (List Addr)) (vars : af) (σ : ae) (s : Shared) : Prop where
 g : G c F X fa ρ σ s
 f : cT c nm F X ρ env fa vars s.heap
section
variable {c : Cx} {nm : Nm} {F F' : FM} {X : aT} {fa : List (Option Addr)} {ρ ao : List (List Addr)} {σ σ' : ae} {s s' : Shared} {env : Env} {vars : af}
theorem W.keep (w : W c nm X env fa F ρ vars σ s) (k : Kp s s') : W c nm X env fa F ρ vars σ s' :=
 ⟨w.g.keeps k.heap k.gens k.os k.toks, w.f.to aG.rfl (List.prefix_refl _) fun ξ a o ξ e => k.heap a o e⟩
theorem W.iu (w : W c nm X env fa F ρ vars σ s) (g : G c F' X fa ao σ' s) (hF : aG F F') (e9 : ρ <+: ao) : W c nm X env fa F' ao vars σ' s :=
 ⟨g, w.f.to hF e9 fun ξ ξ ξ ξ e => e⟩
inductive Rd (c : Cx) (F : FM) (ρ : List (List Addr)) (h : Heap) : Value → D → Prop
 | old {v : Value} {d : D} (r : Rv c.C F ρ v d) : Rd c F ρ h v d
 | live {a : Addr} {vs : List Value} {xs : List D} (hl : h.IsList a vs.toArray) (hs : aC c.C F ρ vs xs) : Rd c F ρ h (.ref a) (.lst xs)
theorem Rd.inv {h : Heap} {v : Value} {d : D} (r : Rd c F ρ h v d) : Rv c.C F ρ v d ∨ ∃ a vs xs, v = .ref a ∧ d = .lst xs ∧ h.IsList a (List.toArray vs) ∧ aC c.C F ρ vs xs := by
 cases r with
 | old r => exact .inl r
 | live hl hs => exact .inr ⟨_, _, _, rfl, rfl, hl, hs⟩
theorem Ec {o : Option (Option cN)} {α : Type} {f : List D → α} {x : α} (e : (match o with | some (some (.lst xs)) => some (f xs) | _ => none) = some x) : ∃ xs, o = some (some (.lst xs)) ∧ f xs = x := by
 match o, e with
 | some (some (.lst xs)), e => exact ⟨xs, rfl, Option.some.inj e⟩
theorem OV {d x : D} (e : Ev.res σ d = some x) : x = d ∨ ∃ l xs, d = .loc l ∧ σ[l]? = some (some (.lst xs)) ∧ x = .lst xs := by
 cases d with
 | loc l => obtain ⟨xs, h1, h2⟩ := Ec (f := D.lst) e; exact .inr ⟨l, xs, rfl, h1, h2.symm⟩
 | _ => exact .inl (Option.some.inj e).symm
theorem G.obj (g : G c F X fa ρ σ s) {v : Value} {l : Nat} {m : cN} (r : Rv c.C F ρ v (.loc l)) (e : σ[l]? = some (some m)) : ∃ a q, v = .ref a ∧ ρ[l]? = some (a :: q) ∧ eJ c.C F ρ s.heap (a :: q) m := by
 obtain ⟨a, q, rfl, h1⟩ := r.inv
 obtain ⟨q', h2, h3⟩ := g.objs l m e
 rw [h1] at h2; cases h2
 exact ⟨a, q, rfl, h1, h3⟩
noncomputable def Ho (C : Addr) (F : FM) (ρ : List (List Addr)) (h : Heap) (r : List Addr) : cN → Prop := @fun aa => match aa with
 | .lst xs => ∃ a vs n, r = [a] ∧ h.get? a = some { cls := .type "list", data := .seq (List.toArray vs) n } ∧ aC C F ρ vs xs
 | .inst as => ∃ a d es n, r = [a, d] ∧ h.get? a = some (instObj C d) ∧ h.get? d = some (dictOf es n) ∧ Ra C F ρ es as
theorem eJ.inv {C : Addr} {h : Heap} {r : List Addr} {m : cN} (x : eJ C F ρ h r m) : Ho C F ρ h r m := by
 cases x with
 | lst ho hs => exact ⟨_, _, _, rfl, ho, hs⟩
 | inst ho hd hs => exact ⟨_, _, _, _, rfl, ho, hd, hs⟩
theorem G.live {v : Value} {l : Nat} {xs : List D} (g : G c F X fa ρ σ s) (r : Rv c.C F ρ v (.loc l)) (e : σ[l]? = some (some (.lst xs))) :
  ∃ a vs n, v = .ref a ∧ ρ[l]? = some [a] ∧ s.heap.get? a = some { cls := .type "list", data := .seq (List.toArray vs) n } ∧ aC c.C F ρ vs xs := by
 obtain ⟨a, q, rfl, h1, h2⟩ := g.obj r e
 obtain ⟨a', vs, n, h3, h4, h5⟩ := h2.inv
 cases h3
 exact ⟨a, vs, n, rfl, h1, h4, h5⟩
theorem G.rd (g : G c F X fa ρ σ s) {v : Value} {d x : D} (r : Rv c.C F ρ v d) (e : Ev.res σ d = some x) : Rd c F ρ s.heap v x := by
 rcases OV e with rfl | ⟨l, xs, rfl, h1, rfl⟩
 ·exact .old r
 ·obtain ⟨a, vs, n, rfl, _, ho, hs⟩ := g.live r h1
  exact .live ⟨_, ho, rfl, _, rfl⟩ hs
theorem G.list (g : G c F X fa ρ σ s) {v : Value} {xs : List D} (r : Rd c F ρ s.heap v (.lst xs)) : ∃ a vs, v = .ref a ∧ s.heap.IsList a (List.toArray vs) ∧ aC c.C F ρ vs xs := by
 rcases r.inv with r | ⟨a, vs, uR, rfl, e, hl, hs⟩
 ·obtain ⟨a, o, vs, n, rfl, ho, hc, hd, hs⟩ := r.inv
  exact ⟨a, vs, rfl, ⟨_, g.f _ _ ho, hc, _, hd⟩, hs⟩
 ·cases e; exact ⟨a, vs, rfl, hl, hs⟩
theorem Rd.rv {h : Heap} {v : Value} {d : D} (r : Rd c F ρ h v d) (hn : dW d = none) : Rv c.C F ρ v d := by
 rcases r.inv with r | ⟨a, vs, uR, _, e, _⟩
 ·exact r
 ·rw [e] at hn; (first | exact au hn | exact ai hn | exact nomatch hn)
theorem G.tuple (g : G c F X fa ρ σ s) {v : Value} {xs : List D} (r : Rd c F ρ s.heap v (.tup xs)) : ∃ a vs, v = .ref a ∧ s.heap.IsTuple a (List.toArray vs) ∧ aC c.C F ρ vs xs := by
 obtain ⟨a, o, vs, n, rfl, ho, hc, hd, hs⟩ := (r.rv rfl).inv
 exact ⟨a, vs, rfl, ⟨_, g.f _ _ ho, hc, _, hd⟩, hs⟩
theorem Rd.int {h : Heap} {v : Value} {i : Int} (r : Rd c F ρ h v (.int i)) : ∃ t, v = .int i t := (r.rv rfl).inv
theorem Rd.flt {h : Heap} {v : Value} {x : UInt64} (r : Rd c F ρ h v (.flt x)) : ∃ t, v = .float x t := let ⟨t, e, _⟩ := (r.rv rfl).inv; ⟨t, e⟩
theorem Rd.str {h : Heap} {v : Value} {x : List Nat} (r : Rd c F ρ h v (.str x)) : ∃ t, v = .str ⟨x.toArray⟩ t := (r.rv rfl).inv
theorem Rd.bool {h : Heap} {v : Value} {b : Bool} (r : Rd c F ρ h v (.bool b)) : v = .bool b := (r.rv rfl).inv
theorem Rd.none {h : Heap} {v : Value} (r : Rd c F ρ h v .none) : v = .none := (r.rv rfl).inv
theorem jh : ∀ {x : D} {i : Int}, intD x = some i → x = .int i := by intro x i h; cases x <;> first | exact congrArg D.int (Option.some.inj h) | (first | exact au h | exact ai h | exact nomatch h)
theorem JH : ∀ {x : D} {i : UInt64}, wg x = some i → x = .flt i := by intro x i h; cases x <;> first | exact congrArg D.flt (Option.some.inj h) | (first | exact au h | exact ai h | exact nomatch h)
theorem Gx : ∀ {x : D} {i : List Nat}, zz x = some i → x = .str i := by intro x i h; cases x <;> first | exact congrArg D.str (Option.some.inj h) | (first | exact au h | exact ai h | exact nomatch h)
theorem jl : ∀ {x : D} {i : List D}, dW x = some i → x = .lst i := by intro x i h; cases x <;> first | exact congrArg D.lst (Option.some.inj h) | (first | exact au h | exact ai h | exact nomatch h)
theorem Dp : ∀ {x : D} {i : List (Nat × D)}, ql x = some i → x = .inst i := by intro x i h; cases x <;> first | exact congrArg D.inst (Option.some.inj h) | (first | exact au h | exact ai h | exact nomatch h)
theorem tW {x : D} {p : Nat × List D} (h : iU σ x = some p) : x = .loc p.1 ∧ σ[p.1]? = some (some (.lst p.2)) := by
 cases x with
 | loc l => obtain ⟨xs, h1, h2⟩ := Ec (f := fun xs => (l, xs)) h; subst h2; exact ⟨rfl, h1⟩
 | _ => (first | exact au h | exact ai h | exact nomatch h)
theorem Dn {x : D} {p : Nat × List (Nat × D)} (h : n6 σ x = some p) : x = .loc p.1 ∧ σ[p.1]? = some (some (.inst p.2)) := by
 cases x with
 | loc l =>
  have h' : (match σ[l]? with | some (some (.inst as)) => some (l, as) | _ => none) = some p := h
  match hs : σ[l]?, h' with
  | some (some (.inst as)), e => cases e; exact ⟨rfl, hs⟩
 | _ => (first | exact au h | exact ai h | exact nomatch h)
theorem bk {α β : Type} {f : ae → Option (α × ae)} {k : α → ae → Option β} {σ : ae} {r : β} {P : Prop} (h : seq1 f k σ = some r) (q : ∀ x σ1, f σ = some (x, σ1) → k x σ1 = some r → P) : P :=
 aO h fun p e1 e2 => q p.1 p.2 e1 e2
inductive Res (c : Cx) (F : FM) (ρ : List (List Addr)) (s s' : Shared) : Value → D → Prop
 | old {v : Value} {d : D} (r : Rv c.C F ρ v d) : Res c F ρ s s' v d
 | flt {x : UInt64} {t : Tok} (h0 : 0 < s.toks) (h1 : s.toks ≤ t) (h2 : t < s'.toks) : Res c F ρ s s' (.float x t) (.flt x)
 | tup {a : Addr} {o : Obj} {vs : List Value} {n : Nat} {xs : List D} (h0 : s.heap.get? a = none) (ho : s'.heap.get? a = some o) (hc : o.cls = .type "tuple") (hd : o.data = .seq vs.toArray n) (hs : aC c.C F ρ vs xs) : Res c F ρ s s' (.ref a) (.tup xs)
 | lst {a : Addr} {o : Obj} {vs : List Value} {n : Nat} {xs : List D} (h0 : s.heap.get? a = none) (ho : s'.heap.get? a = some o) (hc : o.cls = .type "list") (hd : o.data = .seq vs.toArray n) (hs : aC c.C F ρ vs xs) : Res c F ρ s s' (.ref a) (.lst xs)
theorem W.res (w : W c nm X env fa F ρ vars σ s) (k : Kp s s') {v : Value} {d : D} (r : Res c F ρ s s' v d) :
  ∃ F', aG F F' ∧ W c nm X env fa F' ρ vars σ s' ∧ Rv c.C F' ρ v d := by
 have w' := w.keep k
 cases r with
 | old r => exact ⟨F, aG.rfl, w', r⟩
 | @flt x t hp h1 h2 =>
  have h0 : F.t t = none := by
   cases e : F.t t with
   | none => rfl
   | some y => exact absurd (Nat.lt_of_le_of_lt h1 (w.g.ft t y e).2) (Nat.lt_irrefl _)
  have le : aG F { F with t := fun u => if u = t then some x else F.t u } := ⟨fun ξ ξ e => e, fun u y e => by
   dsimp only; split
   ·rename_i q; rw [q, h0] at e; cases e
   ·exact e⟩
  refine ⟨_, le, w'.iu { f := w'.g.f, x := w'.g.x, fx := w'.g.fx, base := w'.g.base, apart := w'.g.apart, own := w'.g.own, objs := fun l m e => ?_, len := w'.g.len, gens := w'.g.gens, os := w'.g.os, bI := w'.g.bI, ft := fun u y e => ?_ } le (List.prefix_refl _), .flt (by simp)⟩
  ·obtain ⟨r, q1, q2⟩ := w'.g.objs l m e
   exact ⟨r, q1, q2.mono le (List.prefix_refl _) fun ξ ξ ξ h => h⟩
  ·dsimp only at e; split at e
   ·rename_i q; subst q
    exact ⟨Nat.lt_of_lt_of_le hp h1, h2⟩
   ·exact w'.g.ft u y e
 | @tup a o vs n xs h0 ho hc hd hs =>
  obtain ⟨h1, h2, h3⟩ := w.g.fresh h0
  have le := g9 (o := o) h1
  exact ⟨_, le, w'.iu (w'.g.gn ho h1 h2 h3) le (List.prefix_refl _), .tup gH hc hd (hs.mono le (List.prefix_refl _))⟩
 | @lst a o vs n xs h0 ho hc hd hs =>
  obtain ⟨h1, h2, h3⟩ := w.g.fresh h0
  have le := g9 (o := o) h1
  exact ⟨_, le, w'.iu (w'.g.gn ho h1 h2 h3) le (List.prefix_refl _), .lst gH hc hd (hs.mono le (List.prefix_refl _))⟩
theorem wpAny_release {M : Model} {A : Around} {E : Value → Shared → Prop} {vs keep : List Value} {Q : Unit → Shared → Prop} (h : Q () s) : wpAny M A (release vs keep) Q E s := by
 unfold release
 have : ∀ (l : List Value), wpAny M A (release.go keep l) Q E s := by
  intro l
  induction l with
  | nil => unfold release.go; exact wpAny_pure h
  | cons x r ih =>
   cases r with
   | nil => unfold release.go; exact wpAny_pure h
   | cons y r => unfold release.go; exact wpAny_bind (wpAny_holding (wpAny_point ih))
 exact this _
theorem oR {M : Model} {A : Around} {E : Value → Shared → Prop} {vs : List Value} {m : Sem Value} {Q : Value → Shared → Prop} (h : wpAny M A m Q E s) : wpAny M A (operate vs m) Q E s := by
 unfold operate
 exact wpAny_bind (wpAny_holding (wpAny_mono h (fun v s' h' => wpAny_bind (wpAny_release (wpAny_pure h'))) fun ξ ξ e => e))
variable {A : Around} {E : Value → Shared → Prop} {prog : Program} {w : World}
theorem zu {i : Int} (h : small i = true) : Builtin.Int.intBits i ≤ 64 := by
 unfold small at h
 have := of_decide_eq_true h
 exact intBits_le_64 (by lia) (by lia)
theorem iW {n : Nat} (h : n ≤ az) : n ≤ sizeLine := by
 rw [sizeLine_eq]; unfold az at h; lia
theorem P7 (a b : List Nat) : (⟨a.toArray⟩ : Str) ++ (⟨b.toArray⟩ : Str) = ⟨(a ++ b).toArray⟩ := by
 show Str.mk _ = _
 simp
theorem mS (a : List Nat) : (⟨a.toArray⟩ : Str).length = a.length := by
 show (a.toArray).size = _
 simp
end
end Ev
end
section
namespace Ev
open PySem PySem.W PySem.Calls PyProof.Rows
section
variable {c : Cx} {nm : Nm} {F F' : FM} {X : aT} {fa : List (Option Addr)} {ρ ao : List (List Addr)} {σ σ' : ae} {s s' : Shared} {env : Env} {vars : af}
variable {A : Around} {E : Value → Shared → Prop} {prog : Program} {w : World} {Q : Value → Shared → Prop}
theorem JK (n : Nat) (x : List Nat) (acc : Array Nat) : (List.replicate n x.toArray).foldl (· ++ ·) acc = (acc.toList ++ (List.replicate n x).flatten).toArray := by
 induction n generalizing acc with
 | zero => simp
 | succ n ih => rw [List.replicate_succ, List.foldl_cons, ih, List.replicate_succ, List.flatten_cons]; simp
theorem QH (x : List Nat) (n : Int) : Txt.mul ⟨x.toArray⟩ n = ⟨((List.replicate n.toNat x).flatten).toArray⟩ := by
 unfold Txt.mul
 by_cases h : n < 1
 ·rw [if_pos h, show n.toNat = 0 by lia]; rfl
 ·rw [if_neg h]
  by_cases h1 : (n == 1 || (⟨x.toArray⟩ : Str).length == 0) = true
  ·rw [if_pos h1]
   rcases Bool.or_eq_true_iff.mp h1 with q | q
   ·have : n = 1 := by simpa using q
    subst this; simp
   ·have : x = [] := by have := beq_iff_eq.mp q; rw [mS] at this; exact List.length_eq_zero_iff.mp this
    subst this; simp
  ·rw [if_neg h1]
   have : ∀ (acc : Array Nat), (List.replicate n.toNat x.toArray).foldl (· ++ ·) acc = (acc.toList ++ (List.replicate n.toNat x).flatten).toArray := JK _ _
   simp only [this]; simp
theorem NY {a b : Int} (h : small b = true) : Builtin.divisionGoesByPylong a b = false := by
 have h' : b.natAbs < 2 ^ 62 := of_decide_eq_true h
 unfold Builtin.divisionGoesByPylong
 by_cases hb : b = 0
 ·subst hb; simp
 ·have hl : b.natAbs.log2 < 62 := (Nat.log2_lt (by lia)).mpr h'
  have : ¬ (b == 0) = true := by simpa using hb
  simp only [this, if_false]
  rw [Bool.and_eq_false_iff]; left
  apply decide_eq_false
  simp; lia
section
variable {A : Around} {E : Value → Shared → Prop} {prog : Program} {w : World} {s : Shared} {Q : Value → Shared → Prop} {op : Operator}
noncomputable def nk (s : Shared) (Q : Value → Shared → Prop) (z : D) : Prop := match z with
 | .int i => ∀ t u, s.toks ≤ t → Q (.int i u) { s with toks := t }
 | .str x => ∀ t u, s.toks ≤ t → Q (.str ⟨x.toArray⟩ u) { s with toks := t }
 | .flt x => 0 < s.toks → Q (.float x s.toks) { s with toks := s.toks + 1 }
 | _ => True
theorem HZ {a b : Int} {t u : Tok} {z : D} (e : gb op a b = some z) (hp : ji z = true → 0 < s.toks) (h : nk s Q z) : wpAny (model prog w) A (binaryOp op (.int a t) (.int b u)) Q E s := by
 refine wpAny_with_toks (Nat.le_refl _) ?_
 cases op with
 | Add => cases e; exact add_int (fun ht => h _ _ ht)
 | Sub => cases e; exact sub_int (fun ht => h _ _ ht)
 | Mult =>
  obtain ⟨hs, e⟩ := bx e
  cases e
  refine mul_int (fun ht => h _ _ ht) ?_
  rcases Bool.or_eq_true_iff.mp hs with q | q
  ·exact IntMulOk.of_left (zu q)
  ·exact IntMulOk.of_right (zu q)
 | FloorDiv =>
  obtain ⟨hs, e⟩ := gT e
  cases e
  obtain ⟨h1, h2⟩ := Bool.or_eq_false_iff.mp (Bool.eq_false_iff.mpr hs)
  exact floordiv_int (ne_of_beq_false h1) (fun ht => h _ _ ht) (.inl (NY (by rw [← Bool.not_not (small b), h2]; rfl)))
 | Mod =>
  obtain ⟨hs, e⟩ := gT e
  cases e
  exact mod_int' (fun q => hs (beq_iff_eq.mpr q)) (fun ht => h _ _ ht)
 | RShift =>
  obtain ⟨hs, e⟩ := bx e
  cases e
  exact rshift_int hs.1 (fun ht => h _ _ ht)
 | Pow =>
  obtain ⟨hs, e⟩ := bx e
  cases e
  obtain ⟨fU, jO⟩ := aj hs
  have hb := of_decide_eq_true jO
  refine pow_int hb.1 ?_ (fun ht => h _ _ ht)
  have h1 := zu fU
  have h2 := hb.2
  have : (Builtin.Int.intBits a : Int) * b ≤ 64 * 64 := Int.mul_le_mul (by exact_mod_cast h1) h2 hb.1 (by lia)
  lia
 | Div =>
  obtain ⟨hs, e⟩ := gT e
  cases e
  obtain ⟨h1, h2⟩ := Bool.or_eq_false_iff.mp (Bool.eq_false_iff.mpr hs)
  exact AutoIntOps.truediv_2 (by rw [h1]; decide) (by rw [h2]; decide) (fun ξ => h (hp rfl))
 | _ => (first | exact au e | exact ai e | exact nomatch e)
theorem HX {a b : UInt64} {t u : Tok} {z : D} (e : vg op a b = some z) (hp : ji z = true → 0 < s.toks) (h : nk s Q z) : wpAny (model prog w) A (binaryOp op (.float a t) (.float b u)) Q E s := by
 refine wpAny_with_toks (Nat.le_refl _) ?_
 cases op with
 | Add => cases e; exact add_float (fun ξ => h (hp rfl))
 | Sub => cases e; exact sub_float (fun ξ => h (hp rfl))
 | Mult => cases e; exact mul_float (fun ξ => h (hp rfl))
 | Div =>
  obtain ⟨hs, e⟩ := gT e
  cases e; exact AutoFloatOps.truediv_1 hs (fun ξ => h (hp rfl))
 | Mod =>
  obtain ⟨hs, e⟩ := gT e
  cases e; exact AutoFloatOps.mod_1 hs (fun ξ => h (hp rfl))
 | _ => (first | exact au e | exact ai e | exact nomatch e)
theorem HY {a : Int} {b : UInt64} {t u : Tok} {z : D} (e : vh op a b = some z) (hp : ji z = true → 0 < s.toks) (h : nk s Q z) : wpAny (model prog w) A (binaryOp op (.int a t) (.float b u)) Q E s := by
 refine wpAny_with_toks (Nat.le_refl _) ?_
 cases op with
 | Div =>
  obtain ⟨hs, e⟩ := gT e
  cases e
  obtain ⟨h1, h2⟩ := Bool.or_eq_false_iff.mp (Bool.eq_false_iff.mpr hs)
  rw [eX, Bool.not_not] at h1
  exact AutoFloatOps.truediv_if_2 (by rw [h1]; decide) (by rw [h2]; decide) (fun ξ => h (hp rfl))
 | Mult =>
  obtain ⟨hs, e⟩ := gT e
  cases e
  rw [eX, Bool.not_not] at hs
  exact AutoFloatOps.mul_if_1 hs (fun ξ => h (hp rfl))
 | _ => (first | exact au e | exact ai e | exact nomatch e)
theorem H9 {a b : List Nat} {t u : Tok} {z : D} (e : vn op a b = some z) (h : nk s Q z) : wpAny (model prog w) A (binaryOp op (.str ⟨a.toArray⟩ t) (.str ⟨b.toArray⟩ u)) Q E s := by
 refine wpAny_with_toks (Nat.le_refl _) ?_
 cases op with
 | Add =>
  obtain ⟨hs, e⟩ := bx e
  cases e
  refine SB.add (fun t' k => ?_) (by rw [mS, mS]; exact iW hs)
  rw [P7]
  exact fun ht => h _ _ ht
 | _ => (first | exact au e | exact ai e | exact nomatch e)
theorem H8 {a : List Nat} {n : Int} {t u : Tok} {z : D} (e : vm op a n = some z) (h : nk s Q z) : wpAny (model prog w) A (binaryOp op (.str ⟨a.toArray⟩ t) (.int n u)) Q E s := by
 refine wpAny_with_toks (Nat.le_refl _) ?_
 cases op with
 | Mult =>
  obtain ⟨hs, e⟩ := bx e
  cases e
  obtain ⟨fU, jO⟩ := aj hs
  have hl := of_decide_eq_true jO
  have hn : n.natAbs < 2 ^ 62 := of_decide_eq_true fU
  refine SB.mul ⟨?_, fun h1 h2 => ?_, fun h1 h2 => ?_⟩ fun t' k => ?_
  ·rw [Bool.or_eq_false_iff]; exact ⟨decide_eq_false (by lia), decide_eq_false (by lia)⟩
  ·rw [mS]
   have hp : 0 < n := by lia
   intro KJ
   have h3 : (a.length : Int) * n ≤ 2 ^ 20 := by
    have : ((a.length * n.toNat : Nat) : Int) ≤ 2 ^ 20 := by unfold az at hl; exact_mod_cast hl
    rwa [Int.natCast_mul, Int.toNat_of_nonneg (by lia)] at this
   have h4 : (2 ^ 63 - 1 : Int) / n < a.length := KJ
   have h5 := Int.lt_mul_of_ediv_lt hp h4
   lia
  ·rw [mS]
   unfold Builtin.Str.tooLong
   unfold az at hl
   first
    | exact decide_eq_false (by rw [sizeLine_eq]; lia)
    | (simp [sizeLine]; lia)
  ·rw [QH]; exact fun ht => h _ _ ht
 | _ => (first | exact au e | exact ai e | exact nomatch e)
end
theorem H6 {op : Operator} {v1 v2 : Value} {x y z : D} (gd : Good 0 A) (r1 : Rd c F ρ s.heap v1 x) (r2 : Rd c F ρ s.heap v2 y) (e : dH op x y = some z) (hp : ji z = true → 0 < s.toks)
  (h : ∀ v s', Kp s s' → Res c F ρ s s' v z → Q v s') : wpAny (model prog w) A (binaryOp op v1 v2) Q E s := by
 have hr : nk s Q z := by
  cases z with
  | int i => exact fun t u ht => h _ _ (.toks' ht) (.old (.int _ _))
  | str i => exact fun t u ht => h _ _ (.toks' ht) (.old (.str _ _))
  | flt i => exact fun h0 => h _ _ .tok (.flt h0 (Nat.le_refl _) (Nat.lt_succ_self _))
  | _ => exact trivial
 cases x with
 | int a =>
  obtain ⟨t, rfl⟩ := r1.int
  cases y with
  | int b => obtain ⟨u, rfl⟩ := r2.int; exact HZ (show gb op a b = some z from e) hp hr
  | flt b => obtain ⟨u, rfl⟩ := r2.flt; exact HY (show vh op a b = some z from e) hp hr
  | _ => (first | exact au e | exact ai e | exact nomatch e)
 | flt a =>
  obtain ⟨t, rfl⟩ := r1.flt
  cases y with
  | flt b => obtain ⟨u, rfl⟩ := r2.flt; exact HX (show vg op a b = some z from e) hp hr
  | _ => (first | exact au e | exact ai e | exact nomatch e)
 | str a =>
  obtain ⟨t, rfl⟩ := r1.str
  cases y with
  | str b => obtain ⟨u, rfl⟩ := r2.str; exact H9 (show vn op a b = some z from e) hr
  | int b => obtain ⟨u, rfl⟩ := r2.int; exact H8 (show vm op a b = some z from e) hr
  | _ => (first | exact au e | exact ai e | exact nomatch e)
 | _ => (first | exact au e | exact ai e | exact nomatch e)
end
end Ev
end
section
namespace Ev
open PySem PySem.W PySem.Calls PyProof.Rows PySem.SeqAt
theorem cmp_self {a : UInt64} (h : Float64.isNaN a = false) : Float64.cmp a a = some Ordering.eq := by
 unfold Float64.isNaN at h
 unfold Float64.cmp
 cases hd : Float64.decode a with
 | nan => rw [hd] at h; cases h
 | inf n => simp
 | fin n m e => simp [Float64.align]
section
variable {c : Cx} {nm : Nm} {F F' : FM} {X : aT} {fa : List (Option Addr)} {ρ ao : List (List Addr)} {σ σ' : ae} {s s' : Shared} {env : Env} {vars : af}
variable {A : Around} {E : Value → Shared → Prop} {prog : Program} {w : World} {Q : Value → Shared → Prop}
theorem sF {y : D} {b : Bool} (e : BK y = some b) : y = .none ∧ b = true := by cases y <;> first | exact ⟨rfl, (Option.some.inj e).symm⟩ | (first | exact au e | exact ai e | exact nomatch e)
theorem sr {a : Bool} {y : D} {b : Bool} (e : BD a y = some b) : ∃ d, y = .bool d ∧ (a == d) = b := by cases y <;> first | exact ⟨_, rfl, Option.some.inj e⟩ | (first | exact au e | exact ai e | exact nomatch e)
theorem sD {a : Int} {y : D} {b : Bool} (e : BI a y = some b) : ∃ d, y = .int d ∧ (a == d) = b := by cases y <;> first | exact ⟨_, rfl, Option.some.inj e⟩ | (first | exact au e | exact ai e | exact nomatch e)
theorem sG {a : List Nat} {y : D} {b : Bool} (e : eqStr a y = some b) : ∃ d, y = .str d ∧ (a == d) = b := by cases y <;> first | exact ⟨_, rfl, Option.some.inj e⟩ | (first | exact au e | exact ai e | exact nomatch e)
theorem sC {a : UInt64} {y : D} {b : Bool} (e : BH a y = some b) : ∃ d, y = .flt d ∧ Float64.isNaN a = false ∧ Float64.isNaN d = false ∧ (Float64.cmp a d == some Ordering.eq) = b := by
 cases y with
 | flt d =>
  obtain ⟨h1, h2⟩ := gT (show (if (Float64.isNaN a || Float64.isNaN d) = true then none else some (Float64.cmp a d == some Ordering.eq)) = some b from e)
  obtain ⟨h3, h4⟩ := Bool.or_eq_false_iff.mp (Bool.eq_false_iff.mpr h1)
  exact ⟨d, rfl, h3, h4, Option.some.inj h2⟩
 | _ => (first | exact au e | exact ai e | exact nomatch e)
theorem E3 {f : List D → Option Bool} {y : D} {b : Bool} (e : yy f y = some b) : ∃ ys, y = .tup ys ∧ f ys = some b := by cases y <;> first | exact ⟨_, rfl, e⟩ | (first | exact au e | exact ai e | exact nomatch e)
theorem Ob {f : List D → Option Bool} {y : D} {b : Bool} (e : E2 f y = some b) : ∃ ys, y = .lst ys ∧ f ys = some b := by cases y <;> first | exact ⟨_, rfl, e⟩ | (first | exact au e | exact ai e | exact nomatch e)
theorem sH {xs : List D} {y : D} {b : Bool} (e : aM (.tup xs) y = some b) : ∃ ys, y = .tup ys ∧ cB xs ys = some b := by
 rw [aM] at e
 exact E3 e
theorem sE {xs : List D} {y : D} {b : Bool} (e : aM (.lst xs) y = some b) : ∃ ys, y = .lst ys ∧ (if (xs.length == ys.length) = true then cB xs ys else some false) = some b := by
 rw [aM] at e
 exact Ob e
theorem sA {x y : D} {xs ys : List D} {b : Bool} (e : cB (x :: xs) (y :: ys) = some b) : ∃ p q, aM x y = some p ∧ cB xs ys = some q ∧ (p && q) = b := by
 rw [cB] at e
 exact aO e fun p h1 e => bT e fun q h2 h3 => ⟨p, q, h1, h2, h3⟩
mutual
theorem vP : ∀ {x y : D} {v : Value} {b : Bool}, Rv c.C F ρ v x → Rv c.C F ρ v y → aM x y = some b → b = true := @fun aa => @(match aa with
 | .none => @fun y v b r1 r2 e => by rw [aM] at e; exact (sF e).2
 | .bool i => @fun y v b r1 r2 e => by
  rw [aM] at e
  obtain ⟨d, rfl, rfl⟩ := sr e
  have h := (r1.inv : v = .bool i).symm.trans (r2.inv : v = .bool d)
  cases h; exact beq_self_eq_true _
 | .int i => @fun y v b r1 r2 e => by
  rw [aM] at e
  obtain ⟨d, rfl, rfl⟩ := sD e
  obtain ⟨t, rfl⟩ := (r1.inv : ∃ t, v = .int i t)
  obtain ⟨u, h⟩ := (r2.inv : ∃ t, _ = Value.int d t)
  cases h; exact beq_self_eq_true _
 | .flt x => @fun y v b r1 r2 e => by
  rw [aM] at e
  obtain ⟨d, rfl, hn, _, rfl⟩ := sC e
  obtain ⟨t, rfl, _⟩ := (r1.inv : ∃ t, v = .float x t ∧ _)
  obtain ⟨u, h, _⟩ := (r2.inv : ∃ t, _ = Value.float d t ∧ _)
  cases h; rw [cmp_self hn]; rfl
 | .str x => @fun y v b r1 r2 e => by
  rw [aM] at e
  obtain ⟨d, rfl, rfl⟩ := sG e
  obtain ⟨t, rfl⟩ := (r1.inv : ∃ t, v = .str ⟨x.toArray⟩ t)
  obtain ⟨u, h⟩ := (r2.inv : ∃ t, _ = Value.str ⟨d.toArray⟩ t)
  cases h; exact beq_self_eq_true _
 | .tup xs => @fun y v b r1 r2 e => by
  obtain ⟨ys, rfl, e2⟩ := sH e
  obtain ⟨a, o, vs, n, rfl, h1, c1, d1, s1⟩ := r1.inv
  obtain ⟨a', o', bj, n', h, h2, c2, d2, s2⟩ := r2.inv
  cases h
  rw [h1] at h2; cases h2
  rw [d1] at d2; cases d2
  exact vR s1 s2 e2
 | .lst xs => @fun y v b r1 r2 e => by
  obtain ⟨ys, rfl, e2⟩ := sE e
  obtain ⟨a, o, vs, n, rfl, h1, c1, d1, s1⟩ := r1.inv
  obtain ⟨a', o', bj, n', h, h2, c2, d2, s2⟩ := r2.inv
  cases h
  rw [h1] at h2; cases h2
  rw [d1] at d2; cases d2
  rw [if_pos (beq_iff_eq.mpr (s1.length.symm.trans s2.length))] at e2
  exact vR s1 s2 e2
 | .inst as => @fun y v b r1 r2 e => by rw [aM] at e; (first | exact au e | exact ai e | exact nomatch e)
 | .loc l => @fun y v b r1 r2 e => by rw [aM] at e; (first | exact au e | exact ai e | exact nomatch e))
theorem vR : ∀ {xs ys : List D} {vs : List Value} {b : Bool}, aC c.C F ρ vs xs → aC c.C F ρ vs ys → cB xs ys = some b → b = true := @fun aa ak => @(match aa, ak with
 | [], [] => @fun ξ b r1 r2 e => by rw [cB] at e; exact (Option.some.inj e).symm
 | [], y :: ys => @fun vs b r1 r2 e => by
  obtain rfl := (r1.inv : vs = [])
  obtain ⟨v, us, h, _⟩ := r2.inv
  cases h
 | x :: xs, [] => @fun vs b r1 r2 e => by
  obtain rfl := (r2.inv : vs = [])
  obtain ⟨v, us, h, _⟩ := r1.inv
  cases h
 | x :: xs, y :: ys => @fun ξ b r1 r2 e => by
  obtain ⟨v, us, rfl, h1, s1⟩ := r1.inv
  obtain ⟨v', uN, h, h2, s2⟩ := r2.inv
  cases h
  obtain ⟨p, q, e1, e2, rfl⟩ := sA e
  rw [vP h1 h2 e1, vR s1 s2 e2]; rfl)
end
noncomputable def iV (xs ys : List D) (j : Nat) : Bool := (aM (xs.getD j .none) (ys.getD j .none)).getD false
theorem Ou {x y : D} {xs ys : List D} : (iV (x :: xs) (y :: ys) ∘ Nat.succ) = iV xs ys := rfl
theorem sy : ∀ {xs ys : List D} {b : Bool}, cB xs ys = some b → ((List.range (min xs.length ys.length)).all (iV xs ys) && xs.length == ys.length) = b := @fun aa ak => @(match aa, ak with
 | [], [] => @fun b e => by rw [cB] at e; exact Option.some.inj e
 | [], υ1 :: υ2 => @fun ξ e => by rw [cB] at e; exact Option.some.inj e
 | υ1 :: υ2, [] => @fun ξ e => by rw [cB] at e; exact Option.some.inj e
 | x :: xs, y :: ys => @fun b e => by
  obtain ⟨p, q, e1, e2, rfl⟩ := sA e
  have ih := sy e2
  have hm : min (x :: xs).length (y :: ys).length = min xs.length ys.length + 1 := Nat.succ_min_succ ..
  have h0 : iV (x :: xs) (y :: ys) 0 = p := by show (aM x y).getD false = p; rw [e1]; rfl
  have hl : ((x :: xs).length == (y :: ys).length) = (xs.length == ys.length) := by simp
  rw [hm, hl, List.range_succ_eq_map, List.all_cons, List.all_map, Ou, h0, Bool.and_assoc]
  exact congrArg (p && ·) ih)
theorem BE : ∀ {xs ys : List D} {b : Bool} (j : Nat), cB xs ys = some b → j < xs.length → j < ys.length → ∃ x y p, xs[j]? = some x ∧ ys[j]? = some y ∧ aM x y = some p ∧ iV xs ys j = p := @fun aa ak aS bQ => @(match aa, ak, aS, bQ with
 | [], υ1, υ2, j => @fun ξ h ξ => absurd h (Nat.not_lt_zero _)
 | υ1 :: υ2, [], υ3, υ4 => @fun ξ ξ h => absurd h (Nat.not_lt_zero _)
 | x :: xs, y :: ys, b, 0 => @fun e ξ ξ => by
  obtain ⟨p, q, e1, e2, rfl⟩ := sA e
  exact ⟨x, y, p, rfl, rfl, e1, by show (aM x y).getD false = p; rw [e1]; rfl⟩
 | x :: xs, y :: ys, b, j + 1 => @fun e h h' => by
  obtain ⟨p, q, e1, e2, rfl⟩ := sA e
  exact BE j e2 (Nat.lt_of_succ_lt_succ h) (Nat.lt_of_succ_lt_succ h'))
theorem lM : ∀ {xs : List D} {j : Nat} {x : D}, xs[j]? = some x → x.dep ≤ D.eY xs := @fun aa ak => @(match aa, ak with
 | [], j => @fun x e => by cases j <;> (first | exact au e | exact ai e | exact nomatch e)
 | y :: ys, 0 => @fun x e => by cases e; rw [D.eY]; exact Nat.le_max_left _ _
 | y :: ys, j + 1 => @fun x e => by rw [D.eY]; exact Nat.le_trans (lM (xs := ys) (j := j) e) (Nat.le_max_right _ _))
structure jZ (c : Cx) (F : FM) (h : Heap) : Prop where
 o : ∀ a o, F.o a = some o → h.get? a = some o
 nb : NoneBooked h
 t0 : ∀ t x, F.t t = some x → 0 < t
theorem Jc {x y : UInt64} {t u : Tok} (z : jZ c F s.heap) (h1 : F.t t = some x) (h2 : F.t u = some y) (n1 : Float64.isNaN x = false) (n2 : Float64.isNaN y = false) : EqAt A s (.float x t) (.float y u) (Float64.cmp x y == some Ordering.eq) := by
 intro prog w E Q hq
 ·have hn := And.intro n1 n2
  have rc : wpAny (model prog w) A (richCompare .Eq (.float x t) (.float y u) >>= fun v => truthOfDropped v) Q E s := by
   refine wpAny_bind ?_
   exact AutoFloatOps.eq_0 (wpAny_truthy_bool hq)
  have xy : x = y → (Float64.cmp x y == some Ordering.eq) = true := fun q => by subst q; rw [cmp_self hn.1]; rfl
  have bI := z.t0 t x h1
  have QL := z.t0 u y h2
  have ht : (t == 0) = false := beq_eq_false_iff_ne.mpr (Nat.ne_of_gt bI)
  have hu : (u == 0) = false := beq_eq_false_iff_ne.mpr (Nat.ne_of_gt QL)
  unfold eqBool
  refine wpAny_holding ?_
  refine wpAny_ite_split (fun wI => ?_) (fun wI => ?_)
  ·have wJ : x = y := by have := eq_of_beq wI; injection this
   rw [xy wJ] at hq
   exact wpAny_bind (wpAny_rule (wpAny_pure hq))
  ·have wJ : ¬ (x = y ∧ t = u) := fun q => wI (by rw [q.1, q.2]; exact beq_self_eq_true _)
   have Lh : (t == u) = false := beq_eq_false_iff_ne.mpr fun q => wJ ⟨by subst q; rw [h1] at h2; exact Option.some.inj h2, q⟩
   show wpAny _ _ (isSame (.float x t) (.float y u) >>= _) _ _ _
   refine wpAny_bind ?_
   unfold isSame isSame.created
   simp only [ht, hu, Lh, Bool.or_self, Bool.false_eq_true, if_false, pure_bind]
   by_cases mh : x = y
   ·subst mh
    simp only [beq_self_eq_true, hn.1, Bool.not_false, Bool.and_self, Bool.not_true, Bool.false_eq_true, if_false, pure_bind]
    refine wpAny_bind (wpAny_sharingNotTold_none z.nb ?_)
    simp only [Bool.false_eq_true, if_false, pure_bind]
    refine wpAny_bind (wpAny_sharingNotTold_none z.nb ?_)
    simp only [Bool.false_eq_true, if_false, pure_bind]
    refine wpAny_bind (wpAny_rule (wpAny_bind (wpAny_askSetting ?_)))
    refine wpAny_pure ?_
    refine wpAny_ite_split (fun ξ => ?_) (fun ξ => rc)
    rw [xy rfl] at hq
    exact wpAny_pure hq
   ·have : (x == y) = false := beq_eq_false_iff_ne.mpr mh
    simp only [this, Bool.false_and, Bool.not_false, if_true]
    refine wpAny_pure ?_
    simp only [Bool.false_eq_true, if_false, pure_bind]
    exact rc
theorem pairs_at {vs us : List Value} {xs ys : List D} {r : Bool} {P : Value → Value → Bool → Prop} (e : cB xs ys = some r) (l1 : vs.length = xs.length) (l2 : us.length = ys.length)
  (he : ∀ (j : Nat) v u x y p, vs[j]? = some v → us[j]? = some u → xs[j]? = some x → ys[j]? = some y → aM x y = some p → P v u p) (j : Nat) (q1 : j < vs.toArray.size) (q2 : j < us.toArray.size) : P vs.toArray[j] us.toArray[j] (iV xs ys j) := by
 have Fp : j < vs.length := q1
 have uq : j < us.length := q2
 obtain ⟨x, y, p, k1, k2, k3, k4⟩ := BE j e (l1 ▸ Fp) (l2 ▸ uq)
 rw [k4]
 exact he j _ _ x y p (List.getElem?_eq_getElem Fp) (List.getElem?_eq_getElem uq) k1 k2 k3
theorem FA {a b : Addr} {vs us : List Value} {xs ys : List D} {r : Bool} (h1 : s.heap.IsTuple a vs.toArray) (h2 : s.heap.IsTuple b us.toArray) (hu : A.units < cLine) (e : cB xs ys = some r)
  (l1 : vs.length = xs.length) (l2 : us.length = ys.length) (he : ∀ (j : Nat) v u x y p, vs[j]? = some v → us[j]? = some u → xs[j]? = some x → ys[j]? = some y → aM x y = some p → EqAt A.in1 s v u p) : RcAt A s (.ref a) (.ref b) r := by
 have := RcAt.tuples (e := iV xs ys) h1 h2 hu (pairs_at (P := fun v u p => EqAt A.in1 s v u p) e l1 l2 he)
 rw [List.size_toArray, List.size_toArray, l1, l2, sy e] at this
 exact this
theorem BJ {vs us : List Value} {xs ys : List D} {r : Bool} (e : (if (xs.length == ys.length) = true then cB xs ys else some false) = some r) :
  (xs.length = ys.length ∧ cB xs ys = some r ∧ ((List.range xs.length).all (iV xs ys)) = r) ∨ (xs.length ≠ ys.length ∧ r = false) := by
 by_cases hl : xs.length = ys.length
 ·rw [if_pos (beq_iff_eq.mpr hl)] at e
  have hb := sy e
  rw [← hl, Nat.min_self, beq_self_eq_true, Bool.and_true] at hb
  exact .inl ⟨hl, e, hb⟩
 ·rw [if_neg (fun q => hl (beq_iff_eq.mp q))] at e
  exact .inr ⟨hl, (Option.some.inj e).symm⟩
theorem Fz {a b : Addr} {vs us : List Value} {xs ys : List D} {r : Bool} (h1 : s.heap.IsList a vs.toArray) (h2 : s.heap.IsList b us.toArray) (hu : A.units < cLine) (e : (if (xs.length == ys.length) = true then cB xs ys else some false) = some r)
  (l1 : vs.length = xs.length) (l2 : us.length = ys.length) (he : ∀ (j : Nat) v u x y p, vs[j]? = some v → us[j]? = some u → xs[j]? = some x → ys[j]? = some y → aM x y = some p → EqAt A.in1 s v u p) : RcAt A s (.ref a) (.ref b) r := by
 rcases BJ (vs := vs) (us := us) e with ⟨hl, e, hb⟩ | ⟨hl, rfl⟩
 ·have := RcAt.lists (e := iV xs ys) h1 h2 (l1.trans (hl.trans l2.symm)) hu (pairs_at (P := fun v u p => EqAt A.in1 s v u p) e l1 l2 he)
  rw [List.size_toArray, l1, hb] at this
  exact this
 ·exact RcAt.lists_lengths h1 h2 (bne_iff_ne.mpr fun q => hl (l1.symm.trans (Eq.trans q l2))) hu
theorem aC.at2 {vs : List Value} {xs : List D} {j : Nat} {v : Value} {x : D} (h : aC c.C F ρ vs xs) (h1 : vs[j]? = some v) (h2 : xs[j]? = some x) : Rv c.C F ρ v x := by
 obtain ⟨v', e, r⟩ := h.get h2
 rw [h1] at e; cases e; exact r
theorem zB (p q : List Nat) : ((⟨p.toArray⟩ : Str) == ⟨q.toArray⟩) = (p == q) := by
 by_cases qf : p = q
 ·subst qf; rw [beq_self_eq_true, beq_self_eq_true]
 ·rw [beq_eq_false_iff_ne.mpr qf, beq_eq_false_iff_ne]; intro h; apply qf; simpa using h
theorem BC {x y : D} {v u : Value} {b : Bool} (A : Around) (hs : qH x = none) (z : jZ c F s.heap) (r1 : Rv c.C F ρ v x) (r2 : Rv c.C F ρ u y) (e : aM x y = some b) : EqAt A s v u b := by
 cases x with
 | none =>
  rw [aM] at e
  obtain ⟨rfl, rfl⟩ := sF e
  rw [(r1.inv : v = .none), (r2.inv : u = .none)]
  exact EqAt.same _
 | bool p =>
  rw [aM] at e
  obtain ⟨d, rfl, rfl⟩ := sr e
  rw [(r1.inv : v = .bool p), (r2.inv : u = .bool d)]
  exact EqAt.bool_bool _ _
 | int p =>
  rw [aM] at e
  obtain ⟨d, rfl, rfl⟩ := sD e
  obtain ⟨t, rfl⟩ := r1.inv
  obtain ⟨t', rfl⟩ := r2.inv
  exact EqAt.int_int _ _ _ _
 | flt p =>
  rw [aM] at e
  obtain ⟨d, rfl, n1, n2, rfl⟩ := sC e
  obtain ⟨t, rfl, h1⟩ := r1.inv
  obtain ⟨t', rfl, h2⟩ := r2.inv
  exact Jc z h1 h2 n1 n2
 | str p =>
  rw [aM] at e
  obtain ⟨d, rfl, rfl⟩ := sG e
  obtain ⟨t, rfl⟩ := r1.inv
  obtain ⟨t', rfl⟩ := r2.inv
  rw [← zB]
  exact EqAt.str_str _ _ _ _
 | tup xs => (first | exact au hs | exact ai hs | exact nomatch hs)
 | lst xs => (first | exact au hs | exact ai hs | exact nomatch hs)
 | inst as => rw [aM] at e; (first | exact au e | exact ai e | exact nomatch e)
 | loc l => rw [aM] at e; (first | exact au e | exact ai e | exact nomatch e)
theorem pI : ∀ (n : Nat) {x y : D} {v u : Value} {b : Bool} (A : Around), x.dep ≤ n → jZ c F s.heap → Rv c.C F ρ v x → Rv c.C F ρ u y → aM x y = some b → A.units + n < cLine → EqAt A s v u b := by
 intro n
 induction n with
 | zero =>
  intro x y v u b A hn z r1 r2 e hu
  cases x with
  | tup xs => rw [D.dep] at hn; exact absurd hn (Nat.not_succ_le_zero _)
  | lst xs => rw [D.dep] at hn; exact absurd hn (Nat.not_succ_le_zero _)
  | _ => exact BC A rfl z r1 r2 e
 | succ n ih =>
  intro x y v u b A hn z r1 r2 e hu
  have gR : A.in1.units + n < cLine := by show A.units + 1 + n < _; lia
  cases x with
  | tup xs =>
   rw [D.dep] at hn
   have e0 := e
   obtain ⟨ys, rfl, e⟩ := sH e
   have yX := r1
   have yY := r2
   obtain ⟨a, o1, vs, n1, rfl, h1, c1, d1, s1⟩ := r1.inv
   obtain ⟨a', o2, us, n2, rfl, h2, c2, d2, s2⟩ := r2.inv
   by_cases haa : a = a'
   ·subst haa
    rw [vP yX yY e0]
    exact EqAt.same _
   ·exact EqAt.of_refs haa (FA ⟨_, z.o _ _ h1, c1, _, d1⟩ ⟨_, z.o _ _ h2, c2, _, d2⟩ (by lia) e s1.length s2.length fun j v u x y p k1 k2 k3 k4 k5 =>
     ih A.in1 (Nat.le_trans (lM k3) (Nat.le_of_succ_le_succ hn)) z (s1.at2 k1 k3) (s2.at2 k2 k4) k5 gR)
  | lst xs =>
   rw [D.dep] at hn
   have e0 := e
   obtain ⟨ys, rfl, _⟩ := sE e
   have yX := r1
   have yY := r2
   obtain ⟨a, o1, vs, n1, rfl, h1, c1, d1, s1⟩ := r1.inv
   obtain ⟨a', o2, us, n2, rfl, h2, c2, d2, s2⟩ := r2.inv
   by_cases haa : a = a'
   ·subst haa
    rw [vP yX yY e0]
    exact EqAt.same _
   ·exact EqAt.of_refs haa (Fz ⟨_, z.o _ _ h1, c1, _, d1⟩ ⟨_, z.o _ _ h2, c2, _, d2⟩ (by lia) e s1.length s2.length fun j v u x y p k1 k2 k3 k4 k5 =>
     ih A.in1 (Nat.le_trans (lM k3) (Nat.le_of_succ_le_succ hn)) z (s1.at2 k1 k3) (s2.at2 k2 k4) k5 gR)
  | _ => exact BC A rfl z r1 r2 e
theorem OP {x y : D} {v u : Value} {b : Bool} {n : Nat} (g : G c F X fa ρ σ s) (z : jZ c F s.heap) (r1 : Rd c F ρ s.heap v x) (r2 : Rd c F ρ s.heap u y) (e : aM x y = some b) (hn : x.dep ≤ n) (hu : A.units + n < cLine) : RcAt A s v u b := by
 cases x with
 | none => rw [aM] at e; obtain ⟨rfl, rfl⟩ := sF e; rw [r1.none, r2.none]; exact RcAt.none_none
 | bool p => rw [aM] at e; obtain ⟨d, rfl, rfl⟩ := sr e; rw [r1.bool, r2.bool]; exact RcAt.bool_bool _ _
 | int p => rw [aM] at e; obtain ⟨d, rfl, rfl⟩ := sD e; obtain ⟨t, rfl⟩ := r1.int; obtain ⟨t', rfl⟩ := r2.int; exact RcAt.int_int _ _ _ _
 | flt p => rw [aM] at e; obtain ⟨d, rfl, n1, n2, rfl⟩ := sC e; obtain ⟨t, rfl⟩ := r1.flt; obtain ⟨t', rfl⟩ := r2.flt; intro prog w E Q hq; exact AutoFloatOps.eq_0 hq
 | str p => rw [aM] at e; obtain ⟨d, rfl, rfl⟩ := sG e; obtain ⟨t, rfl⟩ := r1.str; obtain ⟨t', rfl⟩ := r2.str; rw [← zB]; exact RcAt.str_str _ _ _ _
 | tup xs =>
  obtain ⟨ys, rfl, e⟩ := sH e
  obtain ⟨a, vs, rfl, h1, s1⟩ := g.tuple r1
  obtain ⟨a', us, rfl, h2, s2⟩ := g.tuple r2
  rw [D.dep] at hn
  have gR : A.in1.units + D.eY xs < cLine := by show A.units + 1 + _ < _; lia
  exact FA h1 h2 (by lia) e s1.length s2.length fun j v u x y p k1 k2 k3 k4 k5 => pI (D.eY xs) A.in1 (lM k3) z (s1.at2 k1 k3) (s2.at2 k2 k4) k5 gR
 | lst xs =>
  obtain ⟨ys, rfl, e⟩ := sE e
  obtain ⟨a, vs, rfl, h1, s1⟩ := g.list r1
  obtain ⟨a', us, rfl, h2, s2⟩ := g.list r2
  rw [D.dep] at hn
  have gR : A.in1.units + D.eY xs < cLine := by show A.units + 1 + _ < _; lia
  exact Fz h1 h2 (by lia) e s1.length s2.length fun j v u x y p k1 k2 k3 k4 k5 => pI (D.eY xs) A.in1 (lM k3) z (s1.at2 k1 k3) (s2.at2 k2 k4) k5 gR
 | inst as => rw [aM] at e; (first | exact au e | exact ai e | exact nomatch e)
 | loc l => rw [aM] at e; (first | exact au e | exact ai e | exact nomatch e)
theorem G.HL (g : G c F X fa ρ σ s) (hb : NoneBooked c.B) : jZ c F s.heap :=
 ⟨g.f, let ⟨mc, h1, h2⟩ := hb; ⟨mc, h1.keeps fun b o e => g.f b o (g.base b o e), h2⟩, fun t x e => (g.ft t x e).1⟩
noncomputable def j3 (A : Around) (s : Shared) (y x : Value) (b : Bool) : Prop :=
 ∀ (prog : Program) (w : World) (E : Value → Shared → Prop) (Q : Value → Shared → Prop), Q (.bool b) s → wpAny (model prog w) A (richCompare .Lt y x) Q E s
inductive nj (P : List Value → List Value → Bool → Prop) (a b : Nat) (r : Bool) (l : List (Value × Value)) : Prop
 | mk (vs us : List Value) (hz : l = vs.zip us) (hs : a + us.length = b + vs.length) (hP : P vs us r)
theorem nj.inv {P : List Value → List Value → Bool → Prop} {a b : Nat} {r : Bool} {y x : Value} {l : List (Value × Value)} : nj P a b r ((y, x) :: l) → ∃ vs us, P (y :: vs) (x :: us) r ∧ (P vs us r → nj P a b r l) := @fun aa => match aa with
 | .mk [] us hz υ1 υ2 => nomatch hz
 | .mk (v :: vs) [] hz υ1 υ2 => nomatch hz
 | .mk (v :: vs) (u :: us) hz hs hP => by
  cases hz
  exact ⟨vs, us, hP, fun h => .mk vs us rfl (Nat.succ.inj hs) h⟩
theorem nj.fin {P : List Value → List Value → Bool → Prop} {a b : Nat} {r : Bool} (h0 : ∀ us r, P [] us r → r = decide (0 < us.length)) (h1 : ∀ v vs r, P (v :: vs) [] r → r = false) : nj P a b r [] → decide (a < b) = r := @fun aa => match aa with
 | .mk [] us υ1 hs hP => by
  rw [h0 us r hP]
  refine decide_eq_decide.mpr ?_
  rw [List.length_nil] at hs
  lia
 | .mk (v :: vs) [] υ1 hs hP => by
  rw [h1 v vs r hP]
  refine decide_eq_false ?_
  rw [List.length_nil, List.length_cons] at hs
  lia
 | .mk (v :: vs) (u :: us) hz υ1 υ2 => nomatch hz
theorem QE (l b : Addr) (items xS : Array Value) (n n2 : Nat) (dd vI : Option Addr) (sl qJ : Array (Option Value)) (P : List Value → List Value → Bool → Prop)
  (h0 : ∀ us r, P [] us r → r = decide (0 < us.length)) (h1 : ∀ v vs r, P (v :: vs) [] r → r = false) : ∀ r : Bool,
  Meets (Builtin.«tuple.__lt__» ⟨[.ref l, .ref b], []⟩)
   (fun A R s => s.heap.get? l = some { cls := .type "tuple", dict := dd, data := .seq items n, slots := sl } ∧ s.heap.get? b = some { cls := .type "tuple", dict := vI, data := .seq xS n2, slots := qJ } ∧
    P items.toList xS.toList r ∧ (∀ v vs u us r, P (v :: vs) (u :: us) r → (EqAt A.in1 s v u true ∧ P vs us r) ∨ (EqAt A.in1 s v u false ∧ j3 A.in1 s v u r)) ∧
    R (.ok (.ret (.bool r))) s) := fun r =>
 .of_wp fun prog w A R s h => by
  obtain ⟨hp, g, d, tk, os⟩ := s; obtain ⟨hl, hb, hP, he, h⟩ := h
  have f2 := AutoSeq1.sub_tuple_tuple
  wp_walk using wpAny_loadPart' hl, wpAny_loadPart' hb, wpAny_forIn_list _ (fun rest b s' => b.1 = none ∧ s' = ⟨hp, g, d, tk, os⟩ ∧ nj P items.size xS.size r rest) _
  case turn =>
   rintro ⟨y, x⟩ rest b s' ⟨lV, rfl, hz⟩
   obtain ⟨vs, us, hQ, hn⟩ := hz.inv
   rcases he _ _ _ _ _ hQ with ⟨q1, q2⟩ | ⟨q1, q2⟩
   ·refine wpAny_bind (q1 prog w _ _ ?_)
    wp_walk
    exact ⟨rfl, rfl, hn q2⟩
   ·refine wpAny_bind (q1 prog w _ _ ?_)
    simp only [Bool.not_false, if_true]
    refine wpAny_bind (wpAny_rule (wpAny_bind (q2 prog w _ _ ?_)))
    wp_walk
    exact ⟨_, rfl, h⟩
  case fin =>
   rintro ⟨b1, b2⟩ s' ⟨lV, rfl, hz⟩
   simp only at lV
   subst lV
   wp_walk
   refine ⟨_, rfl, ?_⟩
   simp only [Builtin.Tuple.tupleCompareSizes, hz.fin h0 h1]
   exact h
  case h =>
   exact ⟨rfl, rfl, .mk _ _ rfl (Nat.add_comm ..) hP⟩
end
end Ev
end
section
namespace Ev
open PySem PySem.W PySem.Calls PyProof.Rows PySem.SeqAt
section
variable {c : Cx} {nm : Nm} {F F' : FM} {X : aT} {fa : List (Option Addr)} {ρ ao : List (List Addr)} {σ σ' : ae} {s s' : Shared} {env : Env} {vars : af}
variable {A : Around} {E : Value → Shared → Prop} {prog : Program} {w : World} {Q : Value → Shared → Prop}
theorem Nq (a b : Int) (t u : Tok) : j3 A s (.int a t) (.int b u) (decide (a < b)) := fun prog w E Q h => lt_int h
theorem Np (a b : UInt64) (t u : Tok) : j3 A s (.float a t) (.float b u) (Float64.cmp a b == some Ordering.lt) := fun prog w E Q h => AutoFloatOps.lt_0 h
theorem Nr {a b : Addr} {vs us : List Value} {r : Bool} (h1 : s.heap.IsTuple a vs.toArray) (h2 : s.heap.IsTuple b us.toArray) (hu : A.units < cLine) (P : List Value → List Value → Bool → Prop)
  (q0 : ∀ us r, P [] us r → r = decide (0 < us.length)) (q1 : ∀ v vs r, P (v :: vs) [] r → r = false) (hP : P vs us r)
  (he : ∀ v vs u us r, P (v :: vs) (u :: us) r → (EqAt A.in1 s v u true ∧ P vs us r) ∨ (EqAt A.in1 s v u false ∧ j3 A.in1 s v u r)) : j3 A s (.ref a) (.ref b) r := fun prog w E Q h => by
 obtain ⟨⟨cls, dd, data, sl⟩, ho, hc, n, hd⟩ := id h1
 obtain ⟨⟨Rc, vI, data2, qJ⟩, CR, nS, n2, hd2⟩ := id h2
 simp only at hc hd nS hd2
 subst hc hd nS hd2
 exact richCompare_meets_room (op := .Lt) ⟨_, ho, rfl⟩ ⟨_, CR, rfl⟩ F.slot_tuple_lt F.entry_tuple_lt (F.args_tuple_lt_2 _ _) (QE a b vs.toArray us.toArray n n2 dd vI sl qJ P q0 q1 r)
  ⟨ho, CR, hP, he, show Value.bool r ≠ Value.notImplemented ∧ Q (.bool r) s from ⟨(fun x => nomatch x), h⟩⟩ hu
theorem Et {a : Int} {y : D} {b : Bool} (e : Es a y = some b) : ∃ d, y = .int d ∧ decide (a < d) = b := by cases y <;> first | exact ⟨_, rfl, Option.some.inj e⟩ | (first | exact au e | exact ai e | exact nomatch e)
theorem Er {a : UInt64} {y : D} {b : Bool} (e : Ep a y = some b) : ∃ d, y = .flt d ∧ (Float64.cmp a d == some Ordering.lt) = b := by
 cases y with
 | flt d => exact ⟨d, rfl, Option.some.inj (gT (show (if (Float64.isNaN a || Float64.isNaN d) = true then none else some (Float64.cmp a d == some Ordering.lt)) = some b from e)).2⟩
 | _ => (first | exact au e | exact ai e | exact nomatch e)
noncomputable def u4 (c : Cx) (F : FM) (ρ : List (List Addr)) (n : Nat) (vs us : List Value) (r : Bool) : Prop := ∃ xs ys, aC c.C F ρ vs xs ∧ aC c.C F ρ us ys ∧ gU xs ys = some r ∧ D.eY xs ≤ n
theorem aC.ES {xs : List D} (h : aC c.C F ρ [] xs) : xs = [] := by
 cases xs with
 | nil => rfl
 | cons x xs => obtain ⟨v, us, h, _⟩ := h.inv; (first | exact au h | exact ai h | exact nomatch h)
theorem aC.vH {v : Value} {vs : List Value} {xs : List D} (h : aC c.C F ρ (v :: vs) xs) : ∃ x ys, xs = x :: ys ∧ Rv c.C F ρ v x ∧ aC c.C F ρ vs ys := by
 cases xs with
 | nil => have := (h.inv : v :: vs = []); (first | exact au this | exact ai this | exact nomatch this)
 | cons x xs => obtain ⟨v', us, h, h1, h2⟩ := h.inv; cases h; exact ⟨x, xs, rfl, h1, h2⟩
theorem lex_nil {n : Nat} : ∀ us r, u4 c F ρ n [] us r → r = decide (0 < us.length) := by
 rintro us r ⟨xs, ys, h1, h2, h3, _⟩
 obtain rfl := h1.ES
 rw [h2.length]
 cases ys with
 | nil => rw [gU] at h3; exact (Option.some.inj h3).symm
 | cons _ _ => rw [gU] at h3; exact (Option.some.inj h3).symm
theorem Nb {n : Nat} : ∀ v vs r, u4 c F ρ n (v :: vs) [] r → r = false := by
 rintro v vs r ⟨xs, ys, h1, h2, h3, _⟩
 obtain rfl := h2.ES
 obtain ⟨x, ys, rfl, _⟩ := h1.vH
 rw [gU] at h3; exact (Option.some.inj h3).symm
theorem En {x y : D} {v u : Value} {b : Bool} (A : Around) (hs : qH x = none) (r1 : Rv c.C F ρ v x) (r2 : Rv c.C F ρ u y) (e : eu x y = some b) : j3 A s v u b := by
 cases x with
 | int p =>
  rw [eu] at e
  obtain ⟨d, rfl, rfl⟩ := Et e
  obtain ⟨t, rfl⟩ := r1.inv
  obtain ⟨t', rfl⟩ := r2.inv
  exact Nq _ _ _ _
 | flt p =>
  rw [eu] at e
  obtain ⟨d, rfl, rfl⟩ := Er e
  obtain ⟨t, rfl, _⟩ := r1.inv
  obtain ⟨t', rfl, _⟩ := r2.inv
  exact Np _ _ _ _
 | tup xs => (first | exact au hs | exact ai hs | exact nomatch hs)
 | lst xs => (first | exact au hs | exact ai hs | exact nomatch hs)
 | _ => (first | exact au e | exact ai e | exact nomatch e)
theorem Nn : ∀ (n : Nat) {x y : D} {v u : Value} {b : Bool} (A : Around), x.dep ≤ n → jZ c F s.heap → Rv c.C F ρ v x → Rv c.C F ρ u y → eu x y = some b → A.units + n < cLine → j3 A s v u b := by
 intro n
 induction n with
 | zero =>
  intro x y v u b A hn z r1 r2 e hu
  cases x with
  | tup xs => rw [D.dep] at hn; exact absurd hn (Nat.not_succ_le_zero _)
  | lst xs => (first | exact au e | exact ai e | exact nomatch e)
  | _ => exact En A rfl r1 r2 e
 | succ n ih =>
  intro x y v u b A hn z r1 r2 e hu
  have gR : A.in1.units + n < cLine := by show A.units + 1 + n < _; lia
  cases x with
  | tup xs =>
   rw [D.dep] at hn
   rw [eu] at e
   obtain ⟨ys, rfl, e⟩ := E3 e
   obtain ⟨a, o1, vs, n1, rfl, h1, c1, d1, s1⟩ := r1.inv
   obtain ⟨a', o2, us, n2, rfl, h2, c2, d2, s2⟩ := r2.inv
   refine Nr ⟨_, z.o _ _ h1, c1, _, d1⟩ ⟨_, z.o _ _ h2, c2, _, d2⟩ (by lia) (u4 c F ρ n) lex_nil Nb ⟨xs, ys, s1, s2, e, Nat.le_of_succ_le_succ hn⟩ ?_
   rintro v vs u us r ⟨xs, ys, h1, h2, h3, h4⟩
   obtain ⟨x, xs, rfl, k1, s1⟩ := h1.vH
   obtain ⟨y, ys, rfl, k2, s2⟩ := h2.vH
   rw [gU] at h3
   rw [D.eY] at h4
   refine aO h3 fun p e1 h3 => ?_
   have q1 := pI n A.in1 (Nat.le_trans (Nat.le_max_left _ _) h4) z k1 k2 e1 gR
   cases p with
   | true => exact .inl ⟨q1, xs, ys, s1, s2, h3, Nat.le_trans (Nat.le_max_right _ _) h4⟩
   | false => exact .inr ⟨q1, ih A.in1 (Nat.le_trans (Nat.le_max_left _ _) h4) z k1 k2 h3 gR⟩
  | lst xs => (first | exact au e | exact ai e | exact nomatch e)
  | _ => exact En A rfl r1 r2 e
theorem OQ {x y : D} {v u : Value} {b : Bool} {n : Nat} (z : jZ c F s.heap) (r1 : Rd c F ρ s.heap v x) (r2 : Rd c F ρ s.heap u y) (e : eu x y = some b) (hn : x.dep ≤ n) (hu : A.units + n < cLine) : j3 A s v u b := by
 have hx : dW x = none := by cases x <;> first | rfl | (first | exact au e | exact ai e | exact nomatch e)
 have hy : dW y = none := by
  cases y with
  | lst ys => cases x <;> first | exact nomatch e | (rw [eu] at e; (first | exact au e | exact ai e | exact nomatch e))
  | _ => rfl
 exact Nn n A hn z (r1.rv hx) (r2.rv hy) e hu
theorem OT {a b : Addr} {vs us : List Value} {xs ys : List D} {r : Bool} (h1 : s.heap.IsTuple a vs.toArray) (h2 : s.heap.IsTuple b us.toArray) (hu : A.units < cLine) (e : cB xs ys = some r)
  (l1 : vs.length = xs.length) (l2 : us.length = ys.length) (he : ∀ (j : Nat) v u x y p, vs[j]? = some v → us[j]? = some u → xs[j]? = some x → ys[j]? = some y → aM x y = some p → EqAt A.in1 s v u p) : RcNeAt A s (.ref a) (.ref b) (!r) := by
 have := RcNeAt.tuples (e := iV xs ys) h1 h2 hu (pairs_at (P := fun v u p => EqAt A.in1 s v u p) e l1 l2 he)
 rw [List.size_toArray, List.size_toArray, l1, l2, sy e] at this
 exact this
theorem OS {a b : Addr} {vs us : List Value} {xs ys : List D} {r : Bool} (h1 : s.heap.IsList a vs.toArray) (h2 : s.heap.IsList b us.toArray) (hu : A.units < cLine) (e : (if (xs.length == ys.length) = true then cB xs ys else some false) = some r)
  (l1 : vs.length = xs.length) (l2 : us.length = ys.length) (he : ∀ (j : Nat) v u x y p, vs[j]? = some v → us[j]? = some u → xs[j]? = some x → ys[j]? = some y → aM x y = some p → EqAt A.in1 s v u p) : RcNeAt A s (.ref a) (.ref b) (!r) := by
 rcases BJ (vs := vs) (us := us) e with ⟨hl, e, hb⟩ | ⟨hl, rfl⟩
 ·have := RcNeAt.lists (e := iV xs ys) h1 h2 (l1.trans (hl.trans l2.symm)) hu (pairs_at (P := fun v u p => EqAt A.in1 s v u p) e l1 l2 he)
  rw [List.size_toArray, l1, hb] at this
  exact this
 ·exact RcNeAt.lists_lengths h1 h2 (bne_iff_ne.mpr fun q => hl (l1.symm.trans (Eq.trans q l2))) hu
theorem OR {x y : D} {v u : Value} {b : Bool} {n : Nat} (g : G c F X fa ρ σ s) (z : jZ c F s.heap) (r1 : Rd c F ρ s.heap v x) (r2 : Rd c F ρ s.heap u y) (e : aM x y = some b) (hn : x.dep ≤ n) (hu : A.units + n < cLine) : RcNeAt A s v u (!b) := by
 cases x with
 | none => rw [aM] at e; obtain ⟨rfl, rfl⟩ := sF e; rw [r1.none, r2.none]; exact RcNeAt.none_none
 | bool p => rw [aM] at e; obtain ⟨d, rfl, rfl⟩ := sr e; rw [r1.bool, r2.bool]; exact RcNeAt.bool_bool _ _
 | int p => rw [aM] at e; obtain ⟨d, rfl, rfl⟩ := sD e; obtain ⟨t, rfl⟩ := r1.int; obtain ⟨t', rfl⟩ := r2.int; exact RcNeAt.int_int _ _ _ _
 | flt p => rw [aM] at e; obtain ⟨d, rfl, n1, n2, rfl⟩ := sC e; obtain ⟨t, rfl⟩ := r1.flt; obtain ⟨t', rfl⟩ := r2.flt; intro prog w E Q hq; exact AutoFloatOps.ne_0 hq
 | str p => rw [aM] at e; obtain ⟨d, rfl, rfl⟩ := sG e; obtain ⟨t, rfl⟩ := r1.str; obtain ⟨t', rfl⟩ := r2.str; rw [← zB]; exact RcNeAt.str_str _ _ _ _
 | tup xs =>
  obtain ⟨ys, rfl, e⟩ := sH e
  obtain ⟨a, vs, rfl, h1, s1⟩ := g.tuple r1
  obtain ⟨a', us, rfl, h2, s2⟩ := g.tuple r2
  rw [D.dep] at hn
  have gR : A.in1.units + D.eY xs < cLine := by show A.units + 1 + _ < _; lia
  exact OT h1 h2 (by lia) e s1.length s2.length fun j v u x y p k1 k2 k3 k4 k5 => pI (D.eY xs) A.in1 (lM k3) z (s1.at2 k1 k3) (s2.at2 k2 k4) k5 gR
 | lst xs =>
  obtain ⟨ys, rfl, e⟩ := sE e
  obtain ⟨a, vs, rfl, h1, s1⟩ := g.list r1
  obtain ⟨a', us, rfl, h2, s2⟩ := g.list r2
  rw [D.dep] at hn
  have gR : A.in1.units + D.eY xs < cLine := by show A.units + 1 + _ < _; lia
  exact OS h1 h2 (by lia) e s1.length s2.length fun j v u x y p k1 k2 k3 k4 k5 => pI (D.eY xs) A.in1 (lM k3) z (s1.at2 k1 k3) (s2.at2 k2 k4) k5 gR
 | inst as => rw [aM] at e; (first | exact au e | exact ai e | exact nomatch e)
 | loc l => rw [aM] at e; (first | exact au e | exact ai e | exact nomatch e)
theorem N5 {f : Int → Int → Bool} {g : UInt64 → UInt64 → Bool} {x y : D} {b : Bool} (e : oB f g x y = some b) : (∃ i j, x = .int i ∧ y = .int j ∧ f i j = b) ∨ (∃ i j, x = .flt i ∧ y = .flt j ∧ g i j = b) := by
 cases x with
 | int i => cases y <;> first | exact .inl ⟨_, _, rfl, rfl, Option.some.inj e⟩ | (first | exact au e | exact ai e | exact nomatch e)
 | flt i => cases y <;> first | exact .inr ⟨_, _, rfl, rfl, Option.some.inj e⟩ | (first | exact au e | exact ai e | exact nomatch e)
 | _ => (first | exact au e | exact ai e | exact nomatch e)
theorem yr {op : CmpOp} {f : Int → Int → Bool} {g : UInt64 → UInt64 → Bool} {v u : Value} {x y : D} {b : Bool} (r1 : Rd c F ρ s.heap v x) (r2 : Rd c F ρ s.heap u y) (e : oB f g x y = some b) (h : Q (.bool b) s)
  (hi : ∀ i j t t', Q (.bool (f i j)) s → wpAny (model prog w) A (compareOp op (.int i t) (.int j t')) Q E s) (hf : ∀ i j t t', Q (.bool (g i j)) s → wpAny (model prog w) A (compareOp op (.float i t) (.float j t')) Q E s) : wpAny (model prog w) A (compareOp op v u) Q E s := by
 rcases N5 e with ⟨i, j, rfl, rfl, rfl⟩ | ⟨i, j, rfl, rfl, rfl⟩
 ·obtain ⟨t, rfl⟩ := r1.int; obtain ⟨t', rfl⟩ := r2.int; exact hi _ _ _ _ h
 ·obtain ⟨t, rfl⟩ := r1.flt; obtain ⟨t', rfl⟩ := r2.flt; exact hf _ _ _ _ h
theorem IJ {op : CmpOp} {v u : Value} {x y : D} {b : Bool} (gd : Good 0 A) (g : G c F X fa ρ σ s) (nb : NoneBooked c.B) (r1 : Rd c F ρ s.heap v x) (r2 : Rd c F ρ s.heap u y) (hd : x.dep ≤ 50) (e : cQ op x y = some b)
  (h : Q (.bool b) s) : wpAny (model prog w) A (compareOp op v u) Q E s := by
 have z := g.HL nb
 have hu : A.units + 50 < cLine := by have := gd.units; lia
 cases op with
 | Eq => exact OP g z r1 r2 e hd hu prog w E Q h
 | NotEq => exact bT e fun b' e1 e2 => by subst e2; exact OR g z r1 r2 e1 hd hu prog w E Q h
 | Lt => exact OQ z r1 r2 e hd hu prog w E Q h
 | LtE => exact yr r1 r2 e h (fun ξ ξ ξ ξ h => le_int h) (fun ξ ξ ξ ξ h => AutoFloatOps.le_0 h)
 | Gt => exact yr r1 r2 e h (fun ξ ξ ξ ξ h => gt_int h) (fun ξ ξ ξ ξ h => AutoFloatOps.gt_0 h)
 | GtE => exact yr r1 r2 e h (fun ξ ξ ξ ξ h => ge_int h) (fun ξ ξ ξ ξ h => AutoFloatOps.ge_0 h)
 | _ => (first | exact au e | exact ai e | exact nomatch e)
theorem HG {bs : List Bool} {vs : List Value} {xs : List D} (h : aC c.C F ρ vs xs) : jz xs = some bs → vs = bs.map Value.bool :=
 aC.ind (P := fun vs xs => ∀ bs, jz xs = some bs → vs = bs.map Value.bool) (fun bs e => by cases e; rfl) (fun {v X vs xs} hv _ ih bs e => by
  cases X with
  | bool b =>
   have e' : (jz xs).map (b :: ·) = some bs := e
   exact bT e' fun r e1 e2 => by subst e2; rw [(hv.inv : v = .bool b), ih r e1]; rfl
  | _ => (first | exact au e | exact ai e | exact nomatch e)) h bs
theorem FE {h : Heap} : ∀ bs : List Bool, ∃ as, ReadsAll h (bs.map Value.bool) (bs.map PyData.bool) as := @fun aa => match aa with
 | [] => ⟨_, .nil⟩
 | b :: bs => let ⟨as, r⟩ := FE bs; ⟨_, .cons (Reads.bool b) r⟩
theorem rQ : ∀ bs : List Bool, PyData.canLayAll0 (bs.map PyData.bool) = true ∧ PyData.depthAll (bs.map PyData.bool) = 0 := @fun aa => match aa with
 | [] => ⟨rfl, rfl⟩
 | b :: bs => by simp [PyData.canLayAll0, PyData.depthAll, PyData.canLay0, PyData.depth, rQ bs]
theorem vq (b : Bool) : ∀ bs : List Bool, ((bs.map PyData.bool).any fun y => PyData.eqv y (.bool b)) = bs.contains b := @fun aa => match aa with
 | [] => rfl
 | x :: bs => by
  simp only [List.map_cons, List.any_cons, vq b bs, List.contains_cons, PyData.eqv]
  cases x <;> cases b <;> rfl
theorem Dh {v u : Value} {x y : D} {b : Bool} {Q : Value → Shared → Prop} (gd : Good 0 A) (g : G c F X fa ρ σ s) (r1 : Rd c F ρ s.heap v x) (r2 : Rd c F ρ s.heap u y) (e : inD x y = some b) :
  (Q (.bool b) s → wpAny (model prog w) A (compareOp .In v u) Q E s) ∧ (Q (.bool !b) s → wpAny (model prog w) A (compareOp .NotIn v u) Q E s) := by
 obtain ⟨a, xs, rfl, rfl, e⟩ : ∃ a xs, x = .bool a ∧ y = .lst xs ∧ (jz xs).map (·.contains a) = some b := by
  cases x with
  | bool a => cases y <;> first | exact ⟨_, _, rfl, rfl, e⟩ | (first | exact au e | exact ai e | exact nomatch e)
  | _ => (first | exact au e | exact ai e | exact nomatch e)
 refine bT e fun bs e1 e2 => ?_
 subst e2
 rw [r1.bool]
 obtain ⟨l, vs, rfl, hl, hs⟩ := g.list r2
 have hv := HG hs e1
 subst hv
 obtain ⟨as, ra⟩ := FE (h := s.heap) bs
 obtain ⟨o, ho, hc, n, hd⟩ := hl
 have rl : Reads s.heap (.ref l) (.list (bs.map PyData.bool)) (l :: as) := reads_list_at ho hc hd (by simpa using ra)
 have hu : A.units + 1 + min (PyData.depthAll (bs.map PyData.bool)) (PyData.depth (.bool a)) < cLine := by
  have := gd.units; rw [(rQ bs).2]; simp; lia
 exact ⟨fun h => in_list_reads rl (Reads.bool a) (rQ bs).1 rfl hu (by rw [vq]; exact h), fun h => notIn_list_reads rl (Reads.bool a) (rQ bs).1 rfl hu (by rw [vq]; exact h)⟩
theorem zO {v : Value} {x : D} {b : Bool} {Q : Bool → Shared → Prop} (g : G c F X fa ρ σ s) (r : Rd c F ρ s.heap v x) (e : oO x = some b) (h : ∀ s', Kp s s' → Q b s') : wpAny (model prog w) A (truthy v) Q E s := by
 refine wpAny_with_toks (Nat.le_refl _) ?_
 cases x with
 | bool a => cases e; rw [r.bool]; exact wpAny_truthy_bool fun ξ => h _ .rfl
 | int i => cases e; obtain ⟨t, rfl⟩ := r.int; exact PyProof.Rows.truthy_int fun ξ => h _ .rfl
 | lst xs =>
  obtain ⟨ee, e⟩ := bx e
  cases e
  obtain ⟨l, vs, rfl, hl, hs⟩ := g.list r
  have hlen := hs.length
  refine wpAny_truthy_list hl (by rw [List.size_toArray, hlen]; unfold az at ee; lia) fun ht => ?_
  have he : (vs.toArray.isEmpty) = xs.isEmpty := by
   cases vs <;> cases xs <;> first | rfl | (first | exact au hlen | exact ai hlen | exact nomatch hlen)
  rw [he]
  exact h _ (.toks' ht)
 | _ => (first | exact au e | exact ai e | exact nomatch e)
end
end Ev
end
section
namespace Ev
open PySem PySem.W PySem.Calls PyProof.Rows PySem.SeqAt
noncomputable def aA (c : Cx) (nm : Nm) (X : aT) (env : Env) (fa : List (Option Addr)) (A : Around) (t : Sem Value) (vars : af) (σ : ae) (d : D) (σ' : ae) : Prop :=
 ∀ F ρ s Q Ex, W c nm X env fa F ρ vars σ s → (∀ F' ao v s', aG F F' → ρ <+: ao → W c nm X env fa F' ao vars σ' s' → Rv c.C F' ao v d → Q v s') → wpAny (model c.prog c.w) A t Q Ex s
noncomputable def bN (c : Cx) (nm : Nm) (X : aT) (env : Env) (fa : List (Option Addr)) (A : Around) (t : Sem Bool) (vars : af) (σ : ae) (b : Bool) (σ' : ae) : Prop :=
 ∀ F ρ s Q Ex, W c nm X env fa F ρ vars σ s → (∀ F' ao s', aG F F' → ρ <+: ao → W c nm X env fa F' ao vars σ' s' → Q b s') → wpAny (model c.prog c.w) A t Q Ex s
noncomputable def cy (c : Cx) (nm : Nm) (X : aT) (env : Env) (fa : List (Option Addr)) (A : Around) (t : Sem (List Value)) (vars : af) (σ : ae) (ds : List D) (σ' : ae) : Prop :=
 ∀ F ρ s Q Ex, W c nm X env fa F ρ vars σ s → (∀ F' ao vs s', aG F F' → ρ <+: ao → W c nm X env fa F' ao vars σ' s' → aC c.C F' ao vs ds → Q vs s') → wpAny (model c.prog c.w) A t Q Ex s
section
variable {c : Cx} {nm : Nm} {X : aT} {fa : List (Option Addr)} {σ σ' σ1 σ2 bf : ae} {env : Env} {vars : af} {A : Around}
theorem aA.N8 {t : Sem Value} {d : D} (h : ∀ F ρ s (Q : Value → Shared → Prop) (Ex : Value → Shared → Prop), W c nm X env fa F ρ vars σ s → (∀ v s', Kp s s' → Res c F ρ s s' v d → Q v s') → wpAny (model c.prog c.w) A t Q Ex s) : aA c nm X env fa A t vars σ d σ := by
 intro F ρ s Q Ex w post
 refine h F ρ s Q Ex w fun v s' k r => ?_
 obtain ⟨F', le, w', rv⟩ := w.res k r
 exact post F' ρ v s' le (List.prefix_refl _) w' rv
theorem aA.const {k : Const} {d : D} {n : Nat} {pos : Pos} (e : nH k = some d) (hf : ji d = true → c.pos = true) : aA c nm X env fa A (eval (.Constant k n pos) env) vars σ d σ := by
 refine aA.N8 fun F ρ s Q Ex w h => ?_
 cases k with
 | none => cases e; exact wpAny_Constant_none (h _ _ .rfl (.old .none))
 | bool b => cases e; exact wpAny_Constant_bool (h _ _ .rfl (.old (.bool _)))
 | int i =>
  cases e
  show wpAny _ _ (mkInt _) _ _ _
  exact wpAny_mkInt (h _ _ .tok (.old (.int _ _)))
 | float x => cases e; exact PySem.wpAny_Constant_float (h _ _ .tok (.flt (w.g.bI (hf rfl)) (Nat.le_refl _) (Nat.lt_succ_self _)))
 | str x =>
  cases e
  refine wpAny_Constant_str ?_
  have : x = ⟨x.cps.toList.toArray⟩ := by rw [Array.toArray_toList]
  rw [this]
  exact h _ _ .tok (.old (.str _ _))
 | _ => (first | exact au e | exact ai e | exact nomatch e)
theorem IS {nm : Nm} {x : Str} {i : Nat} (e : nI nm x = some i) : ∃ k, fM nm x = some (i, k) ∧ (k = .local ∨ k = .cell ∨ k = .free) ∧ (x == ("__debug__" : Str)) = false ∧ (x == ("__classdict__" : Str)) = false := by
 unfold nI at e
 cases h : fM nm x with
 | none => rw [h] at e; cases e
 | some p =>
  obtain ⟨j, k⟩ := p
  rw [h] at e
  cases k <;> simp [ug] at e <;> obtain ⟨⟨h1, h2⟩, rfl⟩ := e <;> exact ⟨_, rfl, by simp, by simpa using h1, by simpa using h2⟩
theorem kN : ∀ {nm : Nm} {x : Str} {i : Nat} {k : NameKind}, fM nm x = some (i, k) → nm[i]? = some (x, k) := @fun aa => @(match aa with
 | [] => @fun x i k e => by simp [fM] at e
 | (y, j) :: r => @fun x i k e => by
  unfold fM at e
  split at e
  ·rename_i h; cases e; rw [eq_of_beq h]; rfl
  ·obtain ⟨⟨i', k'⟩, h1, h2⟩ := Option.map_eq_some_iff.mp e
   cases h2
   simpa using kN h1)
theorem EV : ∀ {nm : Nm} {x : Str} {i : Nat} {k : NameKind}, fM nm x = some (i, k) → nm.lookup x = some k := @fun aa => @(match aa with
 | [] => @fun x i k e => by simp [fM] at e
 | (y, j) :: r => @fun x i k e => by
  unfold fM at e
  split at e
  ·rename_i h; cases e; rw [List.lookup_cons, h]
  ·rename_i h
   obtain ⟨⟨i', k'⟩, h1, h2⟩ := Option.map_eq_some_iff.mp e
   cases h2
   rw [List.lookup_cons, show (x == y) = false by simpa using h]
   exact EV h1)
theorem aA.var {x : Str} {i : Nat} {pos : Pos} {d : D} (e : nI nm x = some i) (h : vars[i]?.join = some d) : aA c nm X env fa A (eval (.Name x pos) env) vars σ d σ := by
 intro F ρ s Q Ex w post
 obtain ⟨k, h1, h2, h3, h4⟩ := IS e
 have hv : vars[i]? = some (some d) := by
  cases q : vars[i]? with
  | none => rw [q] at h; cases h
  | some o => rw [q] at h; simp at h; rw [h]
 exact w.f.load w.g (kN h1) h2 hv h3 h4 fun v r => post F ρ v s aG.rfl (List.prefix_refl _) w r
theorem aA.bin {a b : Expr} {op : Operator} {pos : Pos} {x y x' y' z : D} (gd : Good 0 A) (ha : aA c nm X env fa A (eval a env) vars σ x σ1) (hb : aA c nm X env fa A (eval b env) vars σ1 y σ2)
  (ex : res σ2 x = some x') (ey : res σ2 y = some y') (e : dH op x' y' = some z) (hf : ji z = true → c.pos = true) : aA c nm X env fa A (eval (.BinOp a op b pos) env) vars σ z σ2 := by
 intro F ρ s Q Ex w post
 show wpAny _ _ (eval a env >>= fun x => holding [x] (eval b env) >>= fun y => standAt pos >>= fun ξ => operate [x, y] (binaryOp op x y)) Q Ex s
 refine wpAny_bind (ha F ρ s _ Ex w fun F1 aB v1 s1 l1 p1 w1 r1 => wpAny_bind (wpAny_holding (hb F1 aB s1 _ Ex w1 fun F2 aQ v2 s2 l2 p2 w2 r2 => ?_)))
 refine wpAny_bind (wpAny_standAt (oR ?_))
 refine H6 gd (w2.g.rd (r1.mono l2 p2) ex) (w2.g.rd r2 ey) e (fun q => w2.g.bI (hf q)) fun v s3 k r => ?_
 obtain ⟨F3, l3, w3, r3⟩ := w2.res k r
 exact post F3 aQ v s3 ((l1.trans l2).trans l3) (p1.trans p2) w3 r3
theorem Nd {s : Shared} {prog : Program} {w : World} {E : Value → Shared → Prop} {l b : Addr} {vs ws : List Value} {Q : Value → Shared → Prop} (hl : s.heap.IsList l vs.toArray) (hb : s.heap.IsList b ws.toArray) (eZ : vs.length + ws.length ≤ sizeLine)
  (h : Q (.ref s.heap.objs.size) { s with heap := s.heap.push { cls := .type "list", data := .seq (vs ++ ws).toArray } }) : wpAny (model prog w) A (binaryOp .Add (.ref l) (.ref b)) Q E s := by
 obtain ⟨⟨c1, d1, t1, PS⟩, o1, e1, n1, q1⟩ := id hl
 obtain ⟨⟨c2, d2, t2, qJ⟩, o2, e2, n2, q2⟩ := id hb
 dsimp only at e1 q1 e2 q2
 subst e1 q1 e2 q2
 refine concat_meets ⟨_, o1, rfl⟩ ⟨_, o2, rfl⟩ noFill_list_add seq_list_add PySem.F.slot_list_add PySem.F.entry_list_add (PySem.F.args_list_add_2 _ _) (list_addW l b vs.toArray ws.toArray n1 n2 d1 d2 PS qJ (by simpa using eZ)) ⟨o1, o2, ?_⟩
 rw [show vs.toArray ++ ws.toArray = (vs ++ ws).toArray by simp]
 exact h
theorem aA.HD {a b : Expr} {pos : Pos} {x y : D} {xs ys : List D} (ha : aA c nm X env fa A (eval a env) vars σ x σ1) (hb : aA c nm X env fa A (eval b env) vars σ1 y σ2)
  (ex : res σ2 x = some (.lst xs)) (ey : res σ2 y = some (.lst ys)) (e : xs.length + ys.length ≤ az) : aA c nm X env fa A (eval (.BinOp a .Add b pos) env) vars σ (.loc σ2.length) (σ2 ++ [some (.lst (xs ++ ys))]) := by
 intro F ρ s Q Ex w post
 show wpAny _ _ (eval a env >>= fun x => holding [x] (eval b env) >>= fun y => standAt pos >>= fun ξ => operate [x, y] (binaryOp .Add x y)) Q Ex s
 refine wpAny_bind (ha F ρ s _ Ex w fun F1 aB v1 s1 l1 p1 w1 r1 => wpAny_bind (wpAny_holding (hb F1 aB s1 _ Ex w1 fun F2 aQ v2 s2 l2 p2 w2 r2 => ?_)))
 refine wpAny_bind (wpAny_standAt (oR ?_))
 obtain ⟨l, vs, rfl, hl, hs⟩ := w2.g.list (w2.g.rd (r1.mono l2 p2) ex)
 obtain ⟨l', us, rfl, ee, cJ⟩ := w2.g.list (w2.g.rd r2 ey)
 refine Nd hl ee (by rw [hs.length, cJ.length]; exact iW e) ?_
 have g3 := w2.g.Fo (hs.append cJ) 0
 have hlen : aQ.length = σ2.length := w2.g.len
 refine post F2 _ _ _ (l1.trans l2) ((p1.trans p2).trans (List.prefix_append _ _)) ((w2.keep .push).iu g3 aG.rfl (List.prefix_append _ _)) (.loc ⟨[], ?_⟩)
 rw [List.getElem?_append_right (by lia)]; simp [hlen]
theorem aA.cmp {a b : Expr} {op : CmpOp} {pos : Pos} {x y x' y' : D} {r : Bool} (gd : Good 0 A) (nb : NoneBooked c.B) (ha : aA c nm X env fa A (eval a env) vars σ x σ1) (hb : aA c nm X env fa A (eval b env) vars σ1 y σ2)
  (ex : res σ2 x = some x') (ey : res σ2 y = some y') (h : ∀ F ρ s v u Q Ex, W c nm X env fa F ρ vars σ2 s → Rd c F ρ s.heap v x' → Rd c F ρ s.heap u y' → Q (.bool r) s → wpAny (model c.prog c.w) A (compareOp op v u) Q Ex s)
  (hm : ∀ t : Sem Value, markedEach [op] [b] [t] = [t]) : aA c nm X env fa A (eval (.Compare a [op] [b] pos) env) vars σ (.bool r) σ2 ∧ bN c nm X env fa A (testChain pos |> fun ξ => isTrue (.Compare a [op] [b] pos) env (eval (.Compare a [op] [b] pos) env)) vars σ r σ2 := by
 constructor
 ·intro F ρ s Q Ex w post
  show wpAny _ _ (eval a env >>= fun x => compareChain pos x [op] (markedEach [op] [b] [eval b env])) Q Ex s
  rw [hm]
  refine wpAny_bind (ha F ρ s _ Ex w fun F1 aB v1 s1 l1 p1 w1 r1 => ?_)
  unfold compareChain
  refine wpAny_bind (wpAny_holding (hb F1 aB s1 _ Ex w1 fun F2 aQ v2 s2 l2 p2 w2 r2 => wpAny_bind (wpAny_standAt (oR ?_))))
  exact h F2 aQ s2 v1 v2 _ _ w2 (w2.g.rd (r1.mono l2 p2) ex) (w2.g.rd r2 ey) (post F2 aQ _ _ (l1.trans l2) (p1.trans p2) w2 (.bool _))
 ·intro F ρ s Q Ex w post
  show wpAny _ _ (eval a env >>= fun x => testChain pos x [op] (markedEach [op] [b] [eval b env])) Q Ex s
  rw [hm]
  refine wpAny_bind (ha F ρ s _ Ex w fun F1 aB v1 s1 l1 p1 w1 r1 => ?_)
  unfold testChain
  refine wpAny_bind (wpAny_holding (hb F1 aB s1 _ Ex w1 fun F2 aQ v2 s2 l2 p2 w2 r2 => wpAny_bind (wpAny_standAt (wpAny_bind (oR ?_)))))
  exact h F2 aQ s2 v1 v2 _ _ w2 (w2.g.rd (r1.mono l2 p2) ex) (w2.g.rd r2 ey) (wpAny_holding (wpAny_truthy_bool (post F2 aQ _ (l1.trans l2) (p1.trans p2) w2)))
end
end Ev
end
section
namespace Ev
open PySem PySem.W PySem.Calls PyProof.Rows PySem.SeqAt
section
variable {c : Cx} {nm : Nm} {X : aT} {fa : List (Option Addr)} {σ σ' σ1 σ2 bf bX : ae} {env : Env} {vars : af} {A : Around}
theorem W.NT {F : FM} {ρ : List (List Addr)} {s : Shared} {vs : List Value} {ds : List D} (w : W c nm X env fa F ρ vars σ s) (r : aC c.C F ρ vs ds) :
  ∃ F', aG F F' ∧ W c nm X env fa F' ρ vars σ { s with heap := s.heap.push { cls := .type "tuple", data := .seq vs.toArray } } ∧ Rv c.C F' ρ (.ref s.heap.objs.size) (.tup ds) :=
 w.res .push (.tup (o := { cls := .type "tuple", data := .seq vs.toArray }) (none_at_size _) (Heap.get?_push_size _ rfl) rfl rfl r)
theorem W.ym {F : FM} {ρ : List (List Addr)} {s : Shared} {vs : List Value} {ds : List D} (w : W c nm X env fa F ρ vars σ s) (r : aC c.C F ρ vs ds) :
  ∃ F', aG F F' ∧ W c nm X env fa F' ρ vars σ { s with heap := s.heap.push { cls := .type "list", data := .seq vs.toArray } } ∧ Rv c.C F' ρ (.ref s.heap.objs.size) (.lst ds) :=
 w.res .push (.lst (o := { cls := .type "list", data := .seq vs.toArray }) (none_at_size _) (Heap.get?_push_size _ rfl) rfl rfl r)
theorem Nf {s : Shared} {prog : Program} {w : World} {E : Value → Shared → Prop} {l : Addr} {v : Value} {x : Int} {u : Tok} {Q : Value → Shared → Prop} (hl : s.heap.get? l = some { cls := .type "list", data := .seq #[v] })
  (hlo : -(2 ^ 63 : Int) ≤ x) (Ri : x < 2 ^ 63) (eZ : x.toNat ≤ 2 ^ 20)
  (h : Q (.ref s.heap.objs.size) { s with heap := s.heap.push { cls := .type "list", data := .seq (List.replicate x.toNat v).toArray } }) : wpAny (model prog w) A (binaryOp .Mult (.ref l) (.int x u)) Q E s := by
 have sY : (!Builtin.List.listFitsIndex x) = false := by simp [Builtin.List.listFitsIndex]; lia
 have hq : List.foldl (fun x1 x2 => x1 ++ x2) #[] (List.replicate (if (#[v] : Array Value).isEmpty = true then 0 else x.toNat) #[v]) = (List.replicate x.toNat v).toArray := by
  have : ∀ (n : Nat) (acc : Array Value), List.foldl (fun x1 x2 => x1 ++ x2) acc (List.replicate n #[v]) = acc ++ (List.replicate n v).toArray := by
   intro n
   induction n with
   | zero => intro acc; simp
   | succ n ih => intro acc; rw [List.replicate_succ, List.foldl_cons, ih, List.replicate_succ]; apply Array.ext'; simp
  simp [this]
 refine wpAny_binaryOp_repeat_ref (T := "list") (U := "int") (by decide) ⟨_, hl, rfl⟩ (fun s' => typeIs_int s' x u) noFill_list_mul PySem.F.fills_int_mul PySem.F.slot_int_rmul repeat_list PySem.F.slot_int_index.lookup
  (call_meets PySem.F.slot_int_rmul (typeIs_int s x u) PySem.F.entry_int_rmul (PySem.F.args_int_rmul_2 _ _) (int___rmul___int_list x u l #[v] 0)
   ⟨hl, rfl, ⟨_, hl, rfl⟩, call_meets PySem.F.slot_list_mul ⟨_, hl, rfl⟩ PySem.F.entry_list_mul (PySem.F.args_list_mul_2 _ _)
    (AutoListH.list___mul___list_int_3 l #[v] 0 x u (by simp [sY]) (by simp; lia) (by simp [Builtin.List.listTooLong, sizeLine]; lia))
    ⟨hl, ?_⟩⟩)
 rw [hq]; exact h
theorem cy.nil {pos : Pos} : cy c nm X env fa A (spliced (backTo pos (starEach [] env))) vars σ [] σ := by
 intro F ρ s Q Ex w post
 exact spliced_nil (post F ρ [] s aG.rfl (List.prefix_refl _) w .nil)
theorem cy.cons {e : Expr} {es : List Expr} {pos : Pos} {d : D} {ds : List D} (hs : starEach (e :: es) env = (false, eval e env) :: starEach es env) (h : aA c nm X env fa A (eval e env) vars σ d σ1)
  (hr : cy c nm X env fa A (spliced (backTo pos (starEach es env))) vars σ1 ds σ2) : cy c nm X env fa A (spliced (backTo pos (starEach (e :: es) env))) vars σ (d :: ds) σ2 := by
 intro F ρ s Q Ex w post
 rw [hs]
 refine spliced_cons (h F ρ s _ Ex w fun F1 aB v1 s1 l1 p1 w1 r1 => hr F1 aB s1 _ Ex w1 fun F2 aQ vs s2 l2 p2 w2 r2 => ?_)
 exact post F2 aQ _ s2 (l1.trans l2) (p1.trans p2) w2 (.cons (r1.mono l2 p2) r2)
theorem aA.tup {es : List Expr} {n : Nat} {pos : Pos} {ds : List D} (h : cy c nm X env fa A (spliced (backTo pos (starEach es env))) vars σ ds σ1) (hl : ds.length ≤ az) : aA c nm X env fa A (eval (.Tuple es n pos) env) vars σ (.tup ds) σ1 := by
 intro F ρ s Q Ex w post
 refine Tuple_ (h F ρ s _ Ex w fun F1 aB vs s1 l1 p1 w1 r1 => ?_)
 refine wpAny_newTuple ?_ (by rw [r1.length]; exact iW hl)
 obtain ⟨F2, l2, w2, r2⟩ := w1.NT r1
 exact post F2 aB _ _ (l1.trans l2) p1 w2 r2
theorem aA.lst {es : List Expr} {pos : Pos} {ds : List D} (h : cy c nm X env fa A (spliced (backTo pos (starEach es env))) vars σ ds σ1) (hl : ds.length ≤ az) : aA c nm X env fa A (eval (.List es pos) env) vars σ (.lst ds) σ1 := by
 intro F ρ s Q Ex w post
 refine List_ (h F ρ s _ Ex w fun F1 aB vs s1 l1 p1 w1 r1 => ?_)
 refine wpAny_newList ?_ (by rw [r1.length]; exact iW hl)
 obtain ⟨F2, l2, w2, r2⟩ := w1.ym r1
 exact post F2 aB _ _ (l1.trans l2) p1 w2 r2
theorem aA.Nl {es : List Expr} {pos : Pos} {ds : List D} (h : cy c nm X env fa A (spliced (backTo pos (starEach es env))) vars σ ds σ1) (hl : ds.length ≤ az) : aA c nm X env fa A (eval (.List es pos) env) vars σ (.loc σ1.length) (σ1 ++ [some (.lst ds)]) := by
 intro F ρ s Q Ex w post
 refine List_ (h F ρ s _ Ex w fun F1 aB vs s1 l1 p1 w1 r1 => ?_)
 refine wpAny_newList ?_ (by rw [r1.length]; exact iW hl)
 have g2 := w1.g.Fo r1 0
 have hlen : aB.length = σ1.length := w1.g.len
 refine post F1 _ _ _ l1 (p1.trans (List.prefix_append _ _)) ((w1.keep .push).iu g2 aG.rfl (List.prefix_append _ _)) (.loc ⟨[], ?_⟩)
 rw [List.getElem?_append_right (by lia)]; simp [hlen]
theorem aA.rep {a b : Expr} {pos pos' : Pos} {x : D} {i : Int} (hs : starEach [a] env = (false, eval a env) :: starEach [] env) (ha : aA c nm X env fa A (eval a env) vars σ x σ1) (hb : aA c nm X env fa A (eval b env) vars σ1 (.int i) σ2)
  (hi : small i = true) (hl : i.toNat ≤ az) : aA c nm X env fa A (eval (.BinOp (.List [a] pos') .Mult b pos) env) vars σ (.lst (List.replicate i.toNat x)) σ2 := by
 intro F ρ s Q Ex w post
 show wpAny _ _ (eval (.List [a] pos') env >>= fun x => holding [x] (eval b env) >>= fun y => standAt pos >>= fun ξ => operate [x, y] (binaryOp .Mult x y)) Q Ex s
 refine wpAny_bind (List_ ((cy.cons (ds := []) hs ha cy.nil) F ρ s _ Ex w fun F1 aB vs s1 l1 p1 w1 r1 => ?_))
 refine wpAny_newList ?_ (by rw [r1.length]; rw [sizeLine_eq]; simp)
 obtain ⟨v, us, rfl, rv, rn⟩ := r1.inv
 obtain rfl := (rn.inv : us = [])
 have h0 := none_at_size s1.heap
 have ho := Heap.get?_push_size s1.heap (o := { cls := .type "list", data := .seq [v].toArray }) rfl
 obtain ⟨q1, q2, q3⟩ := w1.g.fresh h0
 have l2 := g9 (o := { cls := .type "list", data := .seq [v].toArray }) q1
 have w2 : W c nm X env fa _ aB vars σ1 { s1 with heap := s1.heap.push { cls := .type "list", data := .seq [v].toArray } } :=
  (w1.keep .push).iu ((w1.keep .push).g.gn ho q1 q2 q3) l2 (List.prefix_refl _)
 refine wpAny_bind (wpAny_holding (hb _ aB _ _ Ex w2 fun F3 eF v3 s3 l3 p3 w3 r3 => ?_))
 refine wpAny_bind (wpAny_standAt (oR ?_))
 obtain ⟨t, rfl⟩ := r3.inv
 have jP : i.natAbs < 2 ^ 62 := of_decide_eq_true hi
 have hm : i.toNat ≤ 2 ^ 20 := hl
 refine Nf (w3.g.f _ _ (l3.o _ _ gH)) (by lia) (by lia) hm ?_
 have rr : aC c.C F3 eF (List.replicate i.toNat v) (List.replicate i.toNat x) := by
  have : ∀ n, aC c.C F3 eF (List.replicate n v) (List.replicate n x) := by
   intro n
   induction n with
   | zero => exact .nil
   | succ n ih => exact .cons (rv.mono (l2.trans l3) p3) ih
  exact this _
 obtain ⟨F4, l4, w4, r4⟩ := w3.ym rr
 exact post F4 eF _ _ (((l1.trans l2).trans l3).trans l4) (p1.trans p3) w4 r4
theorem aA.idx {a i : Expr} {pos : Pos} {x y x' d : D} (ha : aA c nm X env fa A (eval a env) vars σ x σ1) (hi : aA c nm X env fa A (eval i env) vars σ1 y σ2) (ex : res σ2 x = some x') (e : De x' y = some d)
  (bB : ∀ o v, subscripted i false o v = operate [o, v] (getItem o v)) : aA c nm X env fa A (eval (.Subscript a i pos) env) vars σ d σ2 := by
 intro F ρ s Q Ex w post
 refine Subscript_ (ha F ρ s _ Ex w fun F1 aB v1 s1 l1 p1 w1 r1 => hi F1 aB s1 _ Ex w1 fun F2 aQ v2 s2 l2 p2 w2 r2 => ?_)
 have rx := w2.g.rd (r1.mono l2 p2) ex
 refine aO e fun xs lO e1 => aO e1 fun k ek e2 => ?_
 clear e1
 obtain rfl := jh ek
 obtain ⟨hk, e3⟩ := bx e2
 obtain ⟨t, rfl⟩ := r2.inv
 have jP : k.natAbs < 2 ^ 62 := of_decide_eq_true hk.2
 cases x' with
 | lst uR =>
   cases lO
   obtain ⟨l, vs, rfl, hl, hs⟩ := w2.g.list rx
   obtain ⟨v, q1, q2⟩ := hs.get e3
   exact tail_any hl.typeIs slot_list_getitem.lookup (wpAny_getItem_list hl hk.1 (by lia) (by simpa using q1) (post F2 aQ _ _ (l1.trans l2) (p1.trans p2) w2 q2)) (bB _ _)
 | tup uR =>
   cases lO
   obtain ⟨l, vs, rfl, hl, hs⟩ := w2.g.tuple rx
   obtain ⟨v, q1, q2⟩ := hs.get e3
   have aZ : k.toNat < vs.length := (List.getElem?_eq_some_iff.mp q1).1
   have ht : IsTup s2.heap l vs.toArray := hl
   exact tail_any ht.typeIs slot_tuple_getitem.lookup (PyProof.Rows.getItem_tuple ht (by lia) (by lia) (seqIndex_of hk.1 (by simp; lia)) (by simpa using q1) (post F2 aQ _ _ (l1.trans l2) (p1.trans p2) w2 q2)) (bB _ _)
 | _ => (first | exact au lO | exact ai lO | exact nomatch lO)
noncomputable def i6 (c : Cx) (nm : Nm) (X : aT) (env : Env) (fa : List (Option Addr)) (A : Around) (t : Sem Value) (vars : af) (σ : ae) (o : Option Int) (σ' : ae) : Prop :=
 ∀ F ρ s Q Ex, W c nm X env fa F ρ vars σ s → (∀ F' ao v s', aG F F' → ρ <+: ao → W c nm X env fa F' ao vars σ' s' → IsPart v o → Q v s') → wpAny (model c.prog c.w) A t Q Ex s
theorem i6.none : i6 c nm X env fa A (evalPart none env) vars σ none σ := fun F ρ s Q Ex w post => wpAny_pure (post F ρ _ s aG.rfl (List.prefix_refl _) w .none)
theorem i6.some {e : Expr} {i : Int} (h : aA c nm X env fa A (eval e env) vars σ (.int i) σ1) : i6 c nm X env fa A (evalPart (some e) env) vars σ (some i) σ1 := fun F ρ s Q Ex w post =>
 h F ρ s _ Ex w fun F1 aB v1 s1 l1 p1 w1 r1 => by
  obtain ⟨t, rfl⟩ := r1.inv
  exact post F1 aB _ s1 l1 p1 w1 (.int _ _)
theorem aC.pick {F : FM} {ρ : List (List Addr)} {vs : List Value} {xs : List D} (h : aC c.C F ρ vs xs) : ∀ is : List Nat, aC c.C F ρ (is.filterMap (vs.toArray[·]?)) (is.filterMap (xs[·]?)) := @fun aa => match aa with
 | [] => .nil
 | i :: is => by
  have ih := aC.pick h is
  rw [List.filterMap_cons, List.filterMap_cons]
  cases e : xs[i]? with
  | none =>
   have : vs[i]? = none := by rw [List.getElem?_eq_none_iff] at e ⊢; rw [h.length]; exact e
   simp only [List.getElem?_toArray, this]
   simpa using ih
  | some x =>
   obtain ⟨v, q1, q2⟩ := h.get e
   simp only [List.getElem?_toArray, q1]
   exact .cons q2 (by simpa using ih)
theorem aA.eT {a : Expr} {l u st : Option Expr} {p pos : Pos} {x x' d : D} {lo hi sp : Option Int} (ha : aA c nm X env fa A (eval a env) vars σ x σ1) (h1 : i6 c nm X env fa A (evalPart l env) vars σ1 lo σ2) (h2 : i6 c nm X env fa A (evalPart u env) vars σ2 hi bf)
  (h3 : i6 c nm X env fa A (evalPart st env) vars bf sp bX) (ex : res bX x = some x') (e : mR x' lo hi sp = some d) : aA c nm X env fa A (eval (.Subscript a (.Slice l u st p) pos) env) vars σ d bX := by
 intro F ρ s Q Ex w post
 refine Subscript_ (ha F ρ s _ Ex w fun F1 aB v1 s1 l1 p1 w1 r1 => wpAny_Slice (h1 F1 aB s1 _ Ex w1 fun F2 aQ v2 s2 l2 p2 w2 r2 => h2 F2 aQ s2 _ Ex w2 fun F3 eF v3 s3 l3 p3 w3 r3 => h3 F3 eF s3 _ Ex w3 fun F4 Ac v4 s4 l4 p4 w4 r4 => ?_))
 have rx := w4.g.rd ((r1.mono l2 p2).mono (l3.trans l4) (p3.trans p4)) ex
 refine aO e fun xs lO e => ?_
 obtain rfl := jl lO
 ·obtain ⟨hc, e⟩ := bx e
  ·cases e
   obtain ⟨a', vs, rfl, hl, hs⟩ := w4.g.list rx
   have w5 := w4.keep (.push (o := { cls := .type "slice", data := .fields #[v2, v3, v4] }))
   have CN := hl.push { cls := .type "slice", data := .fields #[v2, v3, v4] }
   have qg : ∃ ops, subscripted (.Slice l u st p) false (.ref a') (.ref s4.heap.objs.size) = operate ops (getItem (.ref a') (.ref s4.heap.objs.size)) := by cases st <;> exact ⟨_, rfl⟩
   obtain ⟨ops, qg⟩ := qg
   refine tail_any CN.typeIs slot_list_getitem.lookup (wpAny_getItem_list_slice CN (Heap.IsSliceOf.new ..) r2 r3 r4 hc.2 ?_ (by simp [hs.length]; exact iW hc.1)) qg
   have K5 := aC.pick (hs.mono aG.rfl (List.prefix_refl _)) (sliceRange (sliceBounds lo hi sp xs.length).1 (sliceBounds lo hi sp xs.length).2.1 (sliceBounds lo hi sp xs.length).2.2)
   obtain ⟨F6, l6, w6, r6⟩ := w5.ym K5
   have eZ : vs.toArray.size = xs.length := by simp [hs.length]
   unfold slicePick
   rw [eZ]
   exact post F6 Ac _ _ ((((l1.trans l2).trans l3).trans l4).trans l6) (((p1.trans p2).trans p3).trans p4) w6 r6
end
end Ev
end
section
namespace Ev
open PySem PySem.W PySem.Calls PyProof.Rows PySem.SeqAt
structure qZ (c : Cx) : Prop where
 hasDict : hasDictIn c.K c.C = true
 attr : ∀ k, k < 5 → plainGet c.K c.C (attrName k) = true ∧ ∃ a, findIn c.K (.ref c.C) (attrName k) = some a ∧ noGet c.K a = true
theorem AG : ∀ i, i < 5 → ∀ j, j < 5 → (attrName i == attrName j) = (i == j) := by decide +kernel
theorem AE {y : Str} {k : Nat} (e : iK y = some k) : y = attrName k ∧ k < 5 :=
 ⟨eq_of_beq (List.find?_some (p := fun k => y == attrName k) e), List.mem_range.mp (List.mem_of_find?_eq_some e)⟩
section
variable {c : Cx} {nm : Nm} {X : aT} {fa : List (Option Addr)} {σ σ' σ1 σ2 bf bX : ae} {env : Env} {vars : af} {A : Around} {F : FM} {ρ : List (List Addr)} {s : Shared}
theorem Ra.N1 {es : List DictEntry} {as : List (Nat × D)} (h : Ra c.C F ρ es as) : es.any (·.refKey) = false := by
 induction as generalizing es with
 | nil => obtain rfl := (h.inv : es = []); rfl
 | cons a as ih =>
  obtain ⟨hh, t, v, fs, rfl, hk, hv, hs⟩ := h.inv
  rw [List.any_cons, ih hs]; rfl
theorem J1 {es : List DictEntry} {x : Str} {hh : Int} {v w : Value} (h : v.isStr x = true) : getL x (⟨hh, v, w⟩ :: es) = some (some w) := by
 unfold getL
 rw [List.find?_cons, show (DictEntry.key ⟨hh, v, w⟩).isStr x = true from h]
theorem Cy {es : List DictEntry} {x : Str} {hh : Int} {v w : Value} (h : v.isStr x = false) (hr : DictEntry.refKey ⟨hh, v, w⟩ = false) : getL x (⟨hh, v, w⟩ :: es) = getL x es := by
 unfold getL
 rw [List.find?_cons, show (DictEntry.key ⟨hh, v, w⟩).isStr x = false from h, List.any_cons, hr, Bool.false_or]
theorem Ra.get : ∀ {es : List DictEntry} {as : List (Nat × D)} {k : Nat} {d : D}, k < 5 → Ra c.C F ρ es as → as.lookup k = some d → ∃ v, getL (attrName k) es = some (some v) ∧ Rv c.C F ρ v d := @fun ξ aa => @(match aa with
 | [] => @fun k d ξ ξ e => by first | exact au e | exact ai e | exact nomatch e
 | (j, x) :: as => @fun k d iO h e => by
  obtain ⟨hs, t, v, es, rfl, hk, hv, hr⟩ := h.inv
  have hb : (Value.str (attrName j) t).isStr (attrName k) = (j == k) := AG j hk k iO
  by_cases kA : j = k
  ·subst kA
   rw [List.lookup_cons, beq_self_eq_true] at e
   cases e
   exact ⟨v, J1 (hb.trans (beq_self_eq_true _)), hv⟩
  ·rw [List.lookup_cons, beq_eq_false_iff_ne.mpr (Ne.symm kA)] at e
   obtain ⟨u, q1, q2⟩ := Ra.get iO hr e
   exact ⟨u, (Cy (hb.trans (beq_eq_false_iff_ne.mpr kA)) rfl).trans q1, q2⟩)
theorem Ra.miss : ∀ {es : List DictEntry} {as : List (Nat × D)} {x : Str}, Ra c.C F ρ es as → (∀ k, k < 5 → (attrName k == x) = false) → getL x es = some none := @fun es aa => @(match aa with
 | [] => @fun x h ξ => by obtain rfl := (h.inv : es = []); rfl
 | (j, y) :: as => @fun x h hx => by
  obtain ⟨hs, t, v, es, rfl, hk, hv, hr⟩ := h.inv
  exact (Cy (show (Value.str (attrName j) t).isStr x = false from hx j hk) rfl).trans (Ra.miss hr hx))
theorem Pg {v : Value} {d : D} (r : Rv c.C F ρ v d) : handedIn v = true := by cases r <;> rfl
theorem HN {f a : Expr} {as : List Expr} {ks : List Keyword} {p : Pos} {y : Str} {whole : Sem Value} : attributeBase (.Call f (a :: as) ks p) y env whole = whole := by cases f <;> rfl
theorem ve {e : Expr} {y : Str} {whole : Sem Value} (h : fg e = true) : attributeBase e y env whole = whole := by
 cases e with
 | Call f as ks p =>
  cases as with
  | cons a as => exact HN
  | nil => (first | exact au h | exact ai h | exact nomatch h)
 | _ => rfl
theorem G.inst {x : D} {v : Value} {as : List (Nat × D)} (g : G c F X fa ρ σ s) (r : Rv c.C F ρ v x) (e : attrsOf σ x = some as) :
  ∃ a d es n, v = .ref a ∧ s.heap.get? a = some (instObj c.C d) ∧ s.heap.get? d = some (dictOf es n) ∧ Ra c.C F ρ es as := by
 have e' : (match ql x with | some as => some as | none => (n6 σ x).map (·.2)) = some as := e
 cases hi : ql x with
 | some Ay =>
  rw [hi] at e'
  cases e'
  obtain rfl := Dp hi
  obtain ⟨a, d, es, n, rfl, ho, hd, hs⟩ := r.inv
  exact ⟨a, d, es, n, rfl, g.f _ _ ho, g.f _ _ hd, hs⟩
 | none =>
  rw [hi] at e'
  refine bT e' fun p h1 h2 => ?_
  obtain ⟨rfl, h3⟩ := Dn h1
  obtain ⟨a, q, rfl, _, ho⟩ := g.obj r h3
  obtain ⟨a', d, es, n, h4, h5, h6, h7⟩ := ho.inv
  cases h4
  subst h2
  exact ⟨a, d, es, n, rfl, h5, h6, h7⟩
theorem G.K (Z : cG c) (g : G c F X fa ρ σ s) : c.K.In s.heap := Z.K.keeps fun b o e => g.f b o (g.base b o e)
theorem aA.attr {a : Expr} {y : Str} {pos : Pos} {x d : D} {as : List (Nat × D)} {k : Nat} (Z : cG c) (C : qZ c) (hb : fg a = true) (ha : aA c nm X env fa A (eval a env) vars σ x σ1) (ea : attrsOf σ1 x = some as)
  (hk : iK y = some k) (e : as.lookup k = some d) : aA c nm X env fa A (eval (.Attribute a y pos) env) vars σ d σ1 := by
 intro F ρ s Q Ex w post
 have he : eval (.Attribute a y pos) env = (do
   let o ← attributeBase a y env (eval a env)
   standAt pos.atName
   let r ← holding [o] (getAttr o y true)
   letTemporaryGo a o r
   pure r) := rfl
 rw [he, ve hb]
 refine wpAny_bind (ha F ρ s _ Ex w fun F1 aB v1 s1 l1 p1 w1 r1 => wpAny_bind (wpAny_standAt (wpAny_bind (wpAny_holding ?_))))
 obtain ⟨b, dd, es, n, rfl, h1, h2, h3⟩ := w1.g.inst r1 ea
 obtain ⟨rfl, iO⟩ := AE hk
 obtain ⟨v, q1, q2⟩ := h3.get iO e
 obtain ⟨hg, at', hf, hn⟩ := C.attr k iO
 have I : InstAt s1.heap b (instObj c.C dd) c.C (some (dictOf es n)) := ⟨h1, rfl, rfl, h2⟩
 have hh : handedIn v = true := Pg q2
 refine get_value (w1.g.K Z) I (plainGet_of hg).1 (findObj_own C.hasDict hf hn (by rw [lookIn_dict]; exact q1)) hh ?_
 refine wpAny_bind (wpAny_letTemporaryGo (wpAny_pure ?_))
 exact post F1 aB v _ l1 p1 (w1.keep .tok) q2
end
end Ev
end
section
namespace Ev
open PySem PySem.W PySem.Calls PyProof.Rows PySem.SeqAt
section
variable {c : Cx} {nm : Nm} {X : aT} {fa : List (Option Addr)} {σ σ' σ1 σ2 bf bX : ae} {env : Env} {vars : af} {A : Around} {F : FM} {ρ : List (List Addr)} {s : Shared}
variable {M : Model} {E : Value → Shared → Prop}
theorem sJ {f : Value} {args : List (Bool × Sem Value)} {Q : Args → Shared → Prop} (bB : args.all (!·.1) = true) (h : wpAny M A (spliced args) (fun vs s₁ => Q ⟨vs, []⟩ s₁) E s) : wpAny M A (evalArgs f true args []) Q E s := by
 cases args with
 | nil => exact fun Γ p LI => h Γ p LI
 | cons a r =>
  obtain ⟨b, t⟩ := a
  cases b with
  | true => simp at bB
  | false => exact evalArgs_plain h
theorem jA {args : List (Bool × Sem Value)} {pos : Pos} (h : args.all (!·.1) = true) : (backTo pos args).all (!·.1) = true ∧ (backTo pos args).any (·.1) = false := by
 unfold backTo
 constructor
 ·rw [List.all_map]; exact h
 ·rw [List.any_map]
  rw [List.any_eq_false]
  intro x hx
  have := List.all_eq_true.mp h x hx
  simpa using this
theorem rA {o : Expr} {m : Str} {apos pos : Pos} {args : List Expr} {Q : Value → Shared → Prop} (hb : fg o = true) (hp : (apos.endLine == pos.line) = true) (hn : args.length < 29) (bB : (starEach args env).all (!·.1) = true)
  (h : wpAny M A (eval o env) (fun ov s₁ => ∀ pl : Sem Bool, wpAny M A (getMethod ov m pl) (fun fx eU => wpAny M A (callWith pos fx.1 fx.2 (backTo pos (starEach args env)) []) Q E eU) E s₁) E s) :
  wpAny M A (eval (.Call (.Attribute o m apos) args [] pos) env) Q E s := by
 show wpAny _ _ (attributeBase o m env (eval o env) >>= fun ov => standAt apos.atName >>= fun ξ => methodCall o m apos pos env ov (args.length + 0) (backTo pos (starEach args env)) (backToKw pos (keywordEach [] env))) Q E s
 rw [ve hb]
 refine wpAny_bind (wpAny_mono h (fun ov s₁ mj => wpAny_bind (wpAny_standAt ?_)) fun ξ ξ e => e)
 have KH : methodCallForm (args.length + 0) (backTo pos (starEach args env)) (backToKw pos (keywordEach [] env)) = true := by
  unfold methodCallForm
  rw [(jA bB).1]
  have : keywordEach [] env = [] := rfl
  rw [this]
  simp [backToKw]; lia
 unfold methodCall
 rw [KH]
 refine wpAny_bind (wpAny_holding ?_)
 show wpAny _ _ (getMethod ov m (do return (← importBound o env).getD true)) _ _ _
 refine wpAny_mono (mj _) (fun fx eU mq => ?_) fun ξ ξ e => e
 obtain ⟨f, first⟩ := fx
 show wpAny _ _ (methodCallPos true o env apos pos >>= fun p => callWith p f first (backTo pos (starEach args env)) (backToKw pos (keywordEach [] env))) _ _ _
 have : methodCallPos true o env apos pos = pure pos := by unfold methodCallPos; simp [hp]
 rw [this]
 exact wpAny_bind (wpAny_pure mq)
theorem qX {id : String} {pos pos' : Pos} {first : List Value} {args : List Expr} {Q : Value → Shared → Prop} (bB : (starEach args env).all (!·.1) = true)
  (h : wpAny M A (spliced (backTo pos (starEach args env))) (fun vs s₁ => wpAny M A (call (.builtin id) (first ++ vs)) Q E s₁) E s) : wpAny M A (callWith pos' (.builtin id) first (backTo pos (starEach args env)) []) Q E s :=
 callWith_builtin (jA bB).2 (sJ (jA bB).1 h)
theorem uT {T : String} {pos pos' : Pos} {first : List Value} {args : List Expr} {Q : Value → Shared → Prop} (bB : (starEach args env).all (!·.1) = true)
  (h : wpAny M A (spliced (backTo pos (starEach args env))) (fun vs s₁ => wpAny M A (call (.type T) (first ++ vs)) Q E s₁) E s) : wpAny M A (callWith pos' (.type T) first (backTo pos (starEach args env)) []) Q E s := by
 first
  | exact PySem.callWith_type (jA bB).2 (sJ (jA bB).1 h)
  | exact PyProof.Rows.callWith_type (jA bB).2 (sJ (jA bB).1 h)
theorem qY {f : Value} {pos pos' : Pos} {first : List Value} {args : List Expr} {Q : Value → Shared → Prop} (hk : keepIn c.K f = true) (bB : (starEach args env).all (!·.1) = true)
  (h : wpAny M A (spliced (backTo pos (starEach args env))) (fun vs s₁ => c.K.In s₁.heap ∧ wpAny M A (call f (first ++ vs)) Q E s₁) E s) : wpAny M A (callWith pos' f first (backTo pos (starEach args env)) []) Q E s :=
 callWith_of (by rw [(jA bB).2]; rfl) (keeps_K hk) (sJ (jA bB).1 h)
theorem W.turn {l : Nat} {m m' : cN} {r : List Addr} {h' : Heap} {tk : Nat} (w : W c nm X env fa F ρ vars σ s) (hl : σ[l]? = some (some m)) (hr : ρ[l]? = some r)
  (hk : ∀ b o, b ∉ r → s.heap.get? b = some o → h'.get? b = some o) (hm : eJ c.C F ρ h' r m') (ha : ∀ a ∈ r, ∃ o, h'.get? a = some o) (ht : s.toks ≤ tk) : W c nm X env fa F ρ vars (σ.set l (some m')) { s with heap := h', toks := tk } := by
 refine ⟨w.g.turn hl hr hk hm ha ht, w.f.to aG.rfl (List.prefix_refl _) fun i a o hi ho => hk a o (fun fK => ?_) ho⟩
 have := w.g.apart (.fr i) (.loc l) a trivial ⟨m, hl⟩ (bV.mpr hi) (by rw [f9 hr]; exact fK)
 cases this
theorem Cw {M : Model} {E : Value → Shared → Prop} {a : Addr} {vs : Array Value} {n : Nat} {name : Str} {id : String} {pl : Sem Bool} {Q : Value × List Value → Shared → Prop} (slot : Slot "list" name id) (Lj : typeOf (.builtin id) = pure (.type "method_descriptor"))
  (ho : s.heap.get? a = some { cls := .type "list", data := .seq vs n }) (h : Q (.builtin id, [.ref a]) s) : wpAny M A (getMethod (.ref a) name pl) Q E s :=
 getMethod_builtin ⟨_, ho, rfl⟩ PySem.F.plainAttrs_list slot Lj (fun b e => by cases e; exact ⟨_, ho, rfl⟩) h
theorem Mj {x : D} (h : n7 σ x = true) : ∃ l xs, x = .loc l ∧ σ[l]? = some (some (.lst xs)) := by
 cases x with
 | loc l =>
  have h' : (match σ[l]? with | some (some (.lst _)) => true | _ => false) = true := h
  match hs : σ[l]?, h' with
  | some (some (.lst xs)), _ => exact ⟨l, xs, rfl, hs⟩
 | _ => (first | exact au h | exact ai h | exact nomatch h)
theorem aA.append {o a : Expr} {apos pos : Pos} {l : Nat} {y : D} {xs : List D} (hb : fg o = true) (hp : (apos.endLine == pos.line) = true) (fU : starEach [a] env = (false, eval a env) :: starEach [] env)
  (ho : aA c nm X env fa A (eval o env) vars σ (.loc l) σ1) (wW : n7 σ1 (.loc l) = true) (ha : aA c nm X env fa A (eval a env) vars σ1 y σ2) (hl : σ2[l]? = some (some (.lst xs))) (hz : xs.length < az) :
  aA c nm X env fa A (eval (.Call (.Attribute o ("append" : Str) apos) [a] [] pos) env) vars σ .none (σ2.set l (some (.lst (xs ++ [y])))) := by
 intro F ρ s Q Ex w post
 have bB : (starEach [a] env).all (!·.1) = true := by rw [fU]; rfl
 refine rA hb hp (by simp) bB (ho F ρ s _ Ex w fun F1 aB v1 s1 l1 p1 w1 r1 => fun pl => ?_)
 obtain ⟨l', Rr, e1, e2⟩ := Mj wW
 cases e1
 obtain ⟨b, cj, n1, rfl, q1, q2, q3⟩ := w1.g.live r1 e2
 refine Cw slot_list_append PySem.F.type_list_append q2 ?_
 refine qX bB ((cy.cons (ds := []) fU ha cy.nil) F1 aB s1 _ Ex w1 fun F2 aQ vs s2 l2 p2 w2 r2 => ?_)
 obtain ⟨u, us, rfl, ru, rn⟩ := r2.inv
 obtain rfl := (rn.inv : us = [])
 obtain ⟨b', mY, n2, wK, k1, k2, k3⟩ := w2.g.live (r1.mono l2 p2) hl
 cases wK
 refine wpAny_list_append_plain ⟨n2, k2⟩ (fun h' kD cJ => ?_) (by rw [List.size_toArray, k3.length]; exact iW (by lia))
 obtain ⟨n3, kD⟩ := kD
 have xm : h'.get? b = some { cls := .type "list", data := .seq (mY ++ [u]).toArray n3 } := by rw [kD]; simp
 refine post F2 aQ _ _ (l1.trans l2) (p1.trans p2) (w2.turn (tk := s2.toks) hl k1 (fun d o hd e => (cJ.2 d (by simpa using hd)).trans e) (.lst xm (k3.append (.cons ru .nil))) (fun d hd => by simp at hd; subst hd; exact ⟨_, kD⟩) (Nat.le_refl _)) .none
theorem aA.pop {o : Expr} {apos pos : Pos} {l : Nat} {y : D} {xs : List D} (hb : fg o = true) (hp : (apos.endLine == pos.line) = true)
  (ho : aA c nm X env fa A (eval o env) vars σ (.loc l) σ1) (hl : σ1[l]? = some (some (.lst xs))) (hz : xs.length ≤ az) (hy : xs.getLast? = some y) :
  aA c nm X env fa A (eval (.Call (.Attribute o ("pop" : Str) apos) [] [] pos) env) vars σ y (σ1.set l (some (.lst xs.dropLast))) := by
 intro F ρ s Q Ex w post
 refine rA hb hp (by simp) rfl (ho F ρ s _ Ex w fun F1 aB v1 s1 l1 p1 w1 r1 => fun pl => ?_)
 obtain ⟨b, cj, n1, rfl, q1, q2, q3⟩ := w1.g.live r1 hl
 refine Cw PySem.F.slot_list_pop PySem.F.type_list_pop q2 ?_
 refine qX rfl (args_nil ?_)
 have hlen : cj.length = xs.length := q3.length
 have bH : xs ≠ [] := fun e => by subst e; simp at hy
 have Rk : 0 < xs.length := List.length_pos_iff.mpr bH
 have LF : xs[xs.length - 1]? = some y := by rw [← List.getLast?_eq_getElem?]; exact hy
 obtain ⟨u, hu, ru⟩ := q3.get LF
 have Lz : cj.toArray[cj.toArray.size - 1]? = some u := by simp [hlen, hu]
 refine call_meets PySem.F.slot_list_pop ⟨_, q2, rfl⟩ PySem.F.entry_list_pop (PySem.F.args_list_pop_1 _) (PySem.MeetsSeq.list_pop_last b cj.toArray n1 u Lz (by rw [List.size_toArray, hlen]; exact iW hz)) ⟨q2, ?_⟩
 have C8 : Obj.mapSeq (fun ys => ys.eraseIdxIfInBounds (cj.toArray.size - 1)) { cls := .type "list", data := .seq cj.toArray n1 } = { cls := .type "list", data := .seq cj.dropLast.toArray (n1 + 1) } := by
  have e1 : cj.toArray.eraseIdxIfInBounds (cj.toArray.size - 1) = cj.dropLast.toArray := by
   have hv : cj ≠ [] := fun e => by rw [e] at hlen; simp at hlen; lia
   have Ld := List.dropLast_concat_getLast hv
   have jg : cj.toArray.size - 1 = cj.dropLast.length := by simp
   rw [jg]
   conv => lhs; rw [show cj.toArray = (cj.dropLast ++ cj.getLast hv :: []).toArray by rw [Ld]]
   rw [kl_erase]; simp
  simp only [Obj.mapSeq, e1]
  have : ¬ cj.dropLast.toArray.size = cj.toArray.size := by simp; lia
  simp [this]
  lia
 have p8 : (s1.heap.update b (Obj.mapSeq fun ys => ys.eraseIdxIfInBounds (cj.toArray.size - 1))).get? b = some { cls := .type "list", data := .seq cj.dropLast.toArray (n1 + 1) } := by
  rw [Heap.get?_update_self _ q2 (by rw [C8]; rfl), C8]
 have Kv : aC c.C F1 aB cj.dropLast xs.dropLast := by
  have := q3.take (xs.length - 1)
  rw [List.dropLast_eq_take, List.dropLast_eq_take, hlen]; exact this
 exact post F1 aB _ _ l1 p1 (w1.turn (tk := s1.toks) hl q1 (fun d o hd e => (Heap.get?_update_other _ _ (fun q => hd (by simp [q]))).trans e) (.lst p8 Kv) (fun d hd => by simp at hd; subst hd; exact ⟨_, p8⟩) (Nat.le_refl _)) ru
end
end Ev
end
section
namespace Ev
open PySem PySem.W PySem.Calls PyProof.Rows PySem.SeqAt
theorem G8 : ∀ {ns : List Str} {vs : List Value} {i : Nat} {x : Str}, ns.Nodup → ns.length = vs.length → ns[i]? = some x → (ns.zip vs).lookup x = vs[i]? := @fun aa ak aS => @(match aa, ak, aS with
 | [], υ1, i => @fun x ξ ξ e => by simp at e
 | n :: ns, [], υ1 => @fun ξ ξ hl ξ => by simp at hl
 | n :: ns, v :: vs, 0 => @fun x ξ ξ e => by simp at e; subst e; simp [List.lookup_cons]
 | n :: ns, v :: vs, i + 1 => @fun x nd hl e => by
  simp only [List.nodup_cons] at nd
  have e' : ns[i]? = some x := by simpa using e
  have bH : (x == n) = false := by
   rw [beq_eq_false_iff_ne]; intro q; subst q; exact nd.1 (List.mem_of_getElem? e')
  rw [List.zip_cons_cons, List.lookup_cons, bH]
  simpa using G8 nd.2 (by simpa using hl) e')
theorem G9 : ∀ {ns : List Str} {vs : List Value} {t : List (Str × Value)}, ns.Nodup → ns.length = vs.length → (∀ n ∈ ns, t.lookup n = (ns.zip vs).lookup n) → (ns.filterMap fun n => (t.lookup n).map (n, ·)) = ns.zip vs := @fun aa ak => @(match aa, ak with
 | [], υ1 => @fun ξ ξ ξ ξ => rfl
 | n :: ns, [] => @fun ξ ξ hl ξ => by simp at hl
 | n :: ns, v :: vs => @fun t nd hl ht => by
  have h0 := ht n (by simp)
  simp only [List.nodup_cons] at nd
  rw [List.zip_cons_cons, List.lookup_cons, beq_self_eq_true] at h0
  rw [List.filterMap_cons, h0, List.zip_cons_cons]
  dsimp only [Option.map_some]
  congr 1
  refine G9 nd.2 (by simpa using hl) fun m hm => ?_
  rw [ht m (by simp [hm]), List.zip_cons_cons, List.lookup_cons]
  have : (m == n) = false := by rw [beq_eq_false_iff_ne]; intro q; subst q; exact nd.1 hm
  rw [this])
theorem forIn_none {α β γ : Type} {L : List α} (h : L = []) (i : β) (f : α → β → Sem (ForInStep β)) (g : β → Sem γ) : (forIn L i f >>= g) = g i := by subst h; rfl
theorem AR {fd : FuncData} {as : List Arg} {vs : List Value} {s : Shared} (hp : fd.params = ⟨[], as, none, [], [], none, []⟩) (hd : fd.defaults = .none) (nd : (as.map (·.arg)).Nodup) (hl : vs.length = as.length) :
  BindsTo s fd ⟨vs, []⟩ ((as.map (·.arg)).zip vs) := by
 have ee : (as.map (·.arg)).length = vs.length := by rw [List.length_map, hl]
 have miss : ∀ k, List.filter (fun n => (List.lookup n ((as.map (·.arg)).zip vs)).isNone) ((as.map (·.arg)).take k) = [] := fun k => by
  rw [List.filter_eq_nil_iff]
  intro n hn
  obtain ⟨i, hi, he⟩ := List.mem_iff_getElem.mp (List.mem_of_mem_take hn)
  rw [G8 (vs := vs) nd ee (List.getElem?_eq_some_iff.mpr ⟨hi, he⟩), List.getElem?_eq_getElem (ee ▸ hi)]
  exact Bool.noConfusion
 have LH := G9 (t := (as.map (·.arg)).zip vs) nd ee fun ξ ξ => rfl
 cases fd
 cases hp
 cases hd
 refine BindsTo.of_eq ?_
 refine (if_neg ?h1).trans ((if_neg ?h2).trans ?h3)
 case h3 =>
  refine Eq.trans (forIn_none ((congrArg (List.zip _) List.drop_nil).trans List.zip_nil_right) _ _ _) ?_
  exact congrArg (pure (f := Sem)) ((congrArg (List.filterMap _) (List.append_nil _)).trans LH)
 case h1 => show ¬ (decide (vs.length > (as.map (·.arg)).length) && true) = true; rw [decide_eq_false (Nat.not_lt.mpr (Nat.le_of_eq ee.symm))]; exact Bool.noConfusion
 case h2 => exact fun q => Bool.noConfusion ((congrArg (fun l : List Str => !l.isEmpty) (miss _)).symm.trans q)
end Ev
end
section
namespace Ev
open PySem PySem.W PySem.Calls PyProof.Rows PySem.SeqAt
theorem AQ {ko : Str → Option NameKind} : ∀ {bs : List (Str × Value)} {m : Str → Option Value} {x : Str}, (∀ b ∈ bs, b.1 ≠ x) → bindL ko bs m x = m x := @fun aa => @(match aa with
 | [] => @fun ξ ξ ξ => rfl
 | (n, v) :: r => @fun m x h => by
  unfold bindL
  rw [AQ fun b hb => h b (by simp [hb])]
  have : x ≠ n := fun q => h (n, v) (by simp) q.symm
  split
  ·simp [this]
  ·rfl)
theorem AP {ko : Str → Option NameKind} : ∀ {bs : List (Str × Value)} {m : Str → Option Value} {x : Str} {v : Value} {i : Nat}, (bs.map (·.1)).Nodup → bs[i]? = some (x, v) → ko x = some .local → bindL ko bs m x = some v := @fun aa ak aS bQ m7 => @(match aa, ak, aS, bQ, m7 with
 | [], υ1, υ2, υ3, i => @fun ξ e ξ => by simp at e
 | (n, u) :: r, m, x, v, 0 => @fun nd e hk => by
  simp at e; obtain ⟨rfl, rfl⟩ := e
  simp only [List.map_cons, List.nodup_cons] at nd
  unfold bindL
  rw [AQ fun b hb q => nd.1 (by rw [← q]; exact List.mem_map_of_mem hb), if_pos hk]
  simp
 | (n, u) :: r, m, x, v, i + 1 => @fun nd e hk => by
  simp only [List.map_cons, List.nodup_cons] at nd
  unfold bindL
  exact AP nd.2 (by simpa using e) hk)
theorem AO {ko : Str → Option NameKind} : ∀ {bs : List (Str × Value)} {m : Str → Option Value} {x : Str}, (∀ b ∈ bs, b.1 ≠ x) → bindC ko bs m x = m x := @fun aa => @(match aa with
 | [] => @fun ξ ξ ξ => rfl
 | (n, v) :: r => @fun m x h => by
  unfold bindC
  rw [AO fun b hb => h b (by simp [hb])]
  have : x ≠ n := fun q => h (n, v) (by simp) q.symm
  split
  ·rfl
  ·simp [this])
theorem AN {ko : Str → Option NameKind} : ∀ {bs : List (Str × Value)} {m : Str → Option Value} {x : Str} {v : Value} {i : Nat}, (bs.map (·.1)).Nodup → bs[i]? = some (x, v) → ko x ≠ some .local → bindC ko bs m x = some v := @fun aa ak aS bQ m7 => @(match aa, ak, aS, bQ, m7 with
 | [], υ1, υ2, υ3, i => @fun ξ e ξ => by simp at e
 | (n, u) :: r, m, x, v, 0 => @fun nd e hk => by
  simp at e; obtain ⟨rfl, rfl⟩ := e
  simp only [List.map_cons, List.nodup_cons] at nd
  unfold bindC
  rw [AO fun b hb q => nd.1 (by rw [← q]; exact List.mem_map_of_mem hb), if_neg hk]
  simp
 | (n, u) :: r, m, x, v, i + 1 => @fun nd e hk => by
  simp only [List.map_cons, List.nodup_cons] at nd
  unfold bindC
  exact AN nd.2 (by simpa using e) hk)
noncomputable def fS (nm : Nm) (L : Addr) (cells : List (Str × Addr)) : List (Option Addr) := some L :: nm.map fun x => if x.2 == .cell then cells.lookup x.1 else none
theorem lR {nm : Nm} {L : Addr} {cells : List (Str × Addr)} : (fS nm L cells)[0]? = some (some L) := rfl
theorem jK {nm : Nm} {L : Addr} {cells : List (Str × Addr)} {i : Nat} {a : Addr} (h : (fS nm L cells)[i + 1]? = some (some a)) : ∃ x, nm[i]? = some (x, .cell) ∧ cells.lookup x = some a := by
 simp only [fS, List.getElem?_cons_succ, List.getElem?_map] at h
 cases e : nm[i]? with
 | none => rw [e] at h; simp at h
 | some p =>
  obtain ⟨x, k⟩ := p
  rw [e] at h
  simp only [Option.map_some, Option.some.injEq] at h
  split at h
  ·rename_i hk
   have : k = .cell := by simpa using hk
   subst this
   exact ⟨x, rfl, h⟩
  ·cases h
theorem Ck {nm : Nm} {L : Addr} {cells : List (Str × Addr)} {i : Nat} {x : Str} {a : Addr} (h : nm[i]? = some (x, .cell)) (hc : cells.lookup x = some a) : (fS nm L cells)[i + 1]? = some (some a) := by
 simp only [fS, List.getElem?_cons_succ, List.getElem?_map, h]
 simp [hc]
theorem Cm {nm : Nm} {L : Addr} {cells : List (Str × Addr)} (nd : (nm.map (·.1)).Nodup) (hL : ∀ (i : Nat) x a, nm[i]? = some (x, .cell) → cells.lookup x = some a → L < a)
  (Km : ∀ (i j : Nat) x z a, nm[i]? = some (x, .cell) → nm[j]? = some (z, .cell) → cells.lookup x = some a → cells.lookup z = some a → x = z) : ∀ (i j : Nat) (a : Addr), (fS nm L cells)[i]? = some (some a) → (fS nm L cells)[j]? = some (some a) → i = j := @fun aa ak => @(match aa, ak with
 | 0, 0 => @fun ξ ξ ξ => rfl
 | 0, j + 1 => @fun a e e' => by
  obtain ⟨x, e1, e2⟩ := jK e'
  obtain rfl : L = a := Option.some.inj (Option.some.inj e)
  exact absurd (hL j x _ e1 e2) (Nat.lt_irrefl _)
 | i + 1, 0 => @fun a e e' => by
  obtain ⟨x, e1, e2⟩ := jK e
  obtain rfl : L = a := Option.some.inj (Option.some.inj e')
  exact absurd (hL i x _ e1 e2) (Nat.lt_irrefl _)
 | i + 1, j + 1 => @fun a e e' => by
  obtain ⟨x, e1, e2⟩ := jK e
  obtain ⟨z, e3, e4⟩ := jK e'
  obtain rfl := Km i j x z a e1 e3 e2 e4
  exact congrArg Nat.succ (qw nd e1 e3))
theorem gV {h : Heap} {a : Addr} (e : h.objs.size ≤ a) : h.get? a = none := by
 cases q : h.get? a with
 | none => rfl
 | some o => exact absurd (Heap.lt_size q) (Nat.not_lt.mpr e)
theorem P0 {fn : Fn} {ds : List D} (h1 : ds.length = fn.np) (h2 : fn.np ≤ fn.nv) : (cZ fn ds).length = fn.nv := by simp [cZ]; lia
theorem Gw {fn : Fn} {ds : List D} {i : Nat} {d : D} (h1 : ds.length = fn.np) (h : (cZ fn ds)[i]? = some (some d)) : ds[i]? = some d := by
 unfold cZ at h
 by_cases hi : i < ds.length
 ·rw [List.getElem?_append_left (by simpa using hi)] at h
  simpa using h
 ·rw [List.getElem?_append_right (by simpa using hi)] at h
  rw [List.getElem?_replicate] at h
  split at h <;> cases h
structure FnOk0 (fd : FuncData) (fn : Fn) (as : List Arg) (bd : List Stmt) : Prop where
 params : fd.params = ⟨[], as, none, [], [], none, []⟩
 body : fd.body = .stmts bd
 globals : fd.globals = mainGlobals
 builtins : fd.builtins = builtinsNs
 closure : fd.closure = []
 defaults : fd.defaults = .none
 gen : fd.scope.isGenerator = false
 cor : fd.scope.isCoroutine = false
 kind : fd.scope.kind = .function
 nd : (fd.scope.names.map (·.1)).Nodup
 take : (fd.scope.names.map (·.1)).take as.length = as.map (·.arg)
 pk : ∀ (i : Nat) x k, i < as.length → fd.scope.names[i]? = some (x, k) → k = .local ∨ k = .cell
 nofree : ∀ x ∈ fd.scope.names, x.2 ≠ .free ∧ x.2 ≠ .globalExplicit
 nv : fn.nv = fd.scope.names.length
 np : fn.np = as.length
structure Ae (C : Cc) (fd : FuncData) (fn : Fn) (as : List Arg) (bd : List Stmt) : Prop extends FnOk0 fd fn as bd where
 comp : dQ C 200 fn.body fd.scope.names bd = true
theorem OB : ∀ {p : Arguments}, yN p = true → p = ⟨[], p.args, none, [], [], none, []⟩ := @fun aa => @(match aa with
 | ⟨a, as, b, c, d, e, f⟩ => @fun h => by
  simp only [yN, Bool.and_eq_true, List.isEmpty_iff, Option.isNone_iff_eq_none] at h
  obtain ⟨rfl, rfl, rfl, rfl, rfl, rfl⟩ := h
  rfl)
theorem Ml {v : Value} (h : xO v = true) : v = .none := by
 unfold xO at h
 split at h
 ·rfl
 ·cases h
theorem Ci {kg : Nm → List Stmt → Bool} {fd : FuncData} {fn : Fn} (h : sQ kg fn fd = true) : ∃ body, FnOk0 fd fn fd.params.args body ∧ kg fd.scope.names body = true := by
 unfold sQ at h
 simp only [Bool.and_eq_true, Bool.not_eq_true', decide_eq_true_eq] at h
 obtain ⟨⟨h1, h2, h3⟩, ⟨h4, h5⟩, ⟨h6, h7⟩, h8, h9, sV, h11, wA, ⟨wB, J6⟩, nR⟩ := h
 cases hb : fd.body with
 | stmts b =>
  rw [hb] at nR
  exact ⟨b, ⟨OB h1, hb, eq_of_beq h4, eq_of_beq h5, List.isEmpty_iff.mp h2, Ml h3, h6, h7, eq_of_beq h8, h9, sV, fun i x k hi e => by
   have := List.all_eq_true.mp h11 (x, k) (List.mem_of_getElem? (i := i) (by rw [List.getElem?_take_of_lt hi]; exact e))
   simpa using this, fun x hx => by simpa using List.all_eq_true.mp wA x hx, wB, J6⟩, nR⟩
 | _ => rw [hb] at nR; cases nR
theorem JI {C : Cc} {fd : FuncData} {fn : Fn} (h : Cg C fn fd = true) : ∃ body, Ae C fd fn fd.params.args body := by
 obtain ⟨body, h1, h2⟩ := Ci (kg := dQ C 200 fn.body) h
 exact ⟨body, h1, h2⟩
section
variable {c : Cx} {F : FM} {X : aT} {ρ : List (List Addr)} {σ : ae} {s : Shared} {A : Around}
theorem sq {fd : FuncData} {fn : Fn} {as : List Arg} {body : List Stmt} {f : Addr} {fo : Obj} {vs : List Value} {ds : List D} {R : Result → Shared → Prop}
  (dg : FnOk0 fd fn as body) (Z : cG c) (g : G c F X [] ρ σ s) (ho : s.heap.get? f = some fo) (pY : fo.data = .func fd) (hcd : s.heap.CodeRec fd.code fd.qualname) (qc : s.heap.NoLimit)
  (La : A.depth < recursionLimit) (rv : aC c.C F ρ vs ds) (hlen : ds.length = fn.np)
  (h : ∀ env fa s', env.scope = fd.scope ∧ env.code = fd.code → W c fd.scope.names X env fa F ρ (cZ fn ds) σ s' →
   wpAny (model c.prog c.w) (A.deeper env) (execs body env) (fun fl kT => R (.ok (.ret (match fl with | .ret v => v | _ => .none))) kT)
    (fun e kT => wpAny (model c.prog c.w) (A.deeper env) (leaving env e) (fun ξ s3 => R (.error e) s3) (fun e' s3 => R (.error e') s3) kT) s') :
  codeAny (model c.prog c.w) A (.call (.ref f) ⟨vs, []⟩) R s := by
 have CQ := dg.np
 have xr : vs.length = as.length := by rw [rv.length]; lia
 have hle : as.length ≤ fd.scope.names.length := by
  have := congrArg List.length dg.take
  simp at this; lia
 have EJ : (as.map (·.arg)).Nodup := by rw [← dg.take]; exact dg.nd.sublist (List.take_sublist _ _)
 have Rn : (as.map (·.arg)).length = vs.length := by simp [xr]
 have CE : ∀ (i : Nat) x k v, fd.scope.names[i]? = some (x, k) → vs[i]? = some v → ((as.map (·.arg)).zip vs)[i]? = some (x, v) := by
  intro i x k v e1 e2
  have hi : i < as.length := by rw [← xr]; exact (List.getElem?_eq_some_iff.mp e2).1
  rw [← dg.take, List.getElem?_zip_eq_some]
  refine ⟨?_, e2⟩
  rw [List.getElem?_take_of_lt hi, List.getElem?_map, e1]; rfl
 have EK : (((as.map (·.arg)).zip vs).map (·.1)).Nodup := by rw [List.map_fst_zip (by lia)]; exact EJ
 refine codeAny_call_function La ho pY dg.cor dg.gen dg.body hcd ((AR dg.params dg.defaults EJ xr) _ _ _ _ ?_)
 rw [dg.closure]
 refine wpAny_with_toks (Nat.le_refl s.toks) ?_
 refine wpAny_newFunctionEnv_cells dg.kind (fun x hx => ?_) fun env he s' y ht => ?_
 ·obtain ⟨i, hi, e⟩ := List.mem_iff_getElem.mp hx
  have e' : ((as.map (·.arg)).zip vs)[i]? = some x := List.getElem?_eq_some_iff.mpr ⟨hi, e⟩
  rw [List.getElem?_zip_eq_some] at e'
  have CL : i < as.length := by have := (List.getElem?_eq_some_iff.mp e'.1).1; simpa using this
  rw [← dg.take, List.getElem?_take_of_lt CL, List.getElem?_map] at e'
  obtain ⟨⟨z, k⟩, q1, q2⟩ := Option.map_eq_some_iff.mp e'.1
  have uq : z = x.1 := q2
  subst uq
  have hl := iT dg.nd q1
  rcases dg.pk i _ _ CL q1 with rfl | rfl
  ·exact .inl hl
  ·exact .inr ⟨hl, cellsFrom_some _ _ _ (.inl hl)⟩
 ·obtain ⟨h', tk, rfl, hk⟩ := y.done
  have vV : env.scope = fd.scope := by rw [he]; rfl
  have Bv : env.locals = s.heap.objs.size := by rw [he]; rfl
  have I4 : env.cells = cellsFrom (s.heap.objs.size + 1) fd.scope.names [] := by rw [he]; rfl
  have se : ∀ x, env.kindOf x = fd.scope.names.lookup x := fun x => by unfold Env.kindOf; rw [vV]
  have iR : s.toks ≤ tk := ht
  refine ⟨qc.keeps hk, codeAny_func (h env (fS fd.scope.names env.locals env.cells) _ ⟨vV, by rw [he]; rfl⟩ ⟨?_, ?_⟩)⟩
  ·-- G
   refine G.yl (g.keeps (s' := { s with heap := h', toks := tk }) hk rfl rfl iR) ?_ ?_
   ·intro i a e
    have ex : ∃ o, h'.get? a = some o := by
     cases i with
     | zero => rw [lR] at e; cases e; obtain ⟨o, _, _, e, _⟩ := y.toInCall.ns; exact ⟨o, e⟩
     | succ i =>
      obtain ⟨x, e1, e2⟩ := jK e
      obtain ⟨o, e, _⟩ := y.cell x a e2
      exact ⟨o, e⟩
    have jf : s.heap.objs.size ≤ a := by
     cases i with
     | zero => rw [lR] at e; cases e; rw [Bv]; exact Nat.le_refl _
     | succ i =>
      obtain ⟨x, e1, e2⟩ := jK e
      have := y.above x a (mem_of_lookup e2)
      rw [Bv] at this; exact Nat.le_of_lt this
    obtain ⟨q1, q2, q3⟩ := g.fresh (gV jf)
    exact ⟨q1, q2, q3, ex⟩
   ·exact Cm dg.nd (fun ξ x a ξ e2 => y.above x a (mem_of_lookup e2)) fun ξ ξ x z a ξ ξ e2 e4 => name_of_addr y.apart (mem_of_lookup e2) (mem_of_lookup e4)
  ·refine { kindF := by rw [vV]; exact dg.kind, glob := by rw [he]; exact dg.globals, bi := by rw [he]; exact dg.builtins, nd := dg.nd, len := by rw [P0 hlen (by rw [dg.np, dg.nv]; exact hle), dg.nv], l0 := lR, kinds := fun x k hx => ⟨fun q => by subst q; exact .inr (by rw [se]; exact hx), fun ξ => by rw [se]; exact hx⟩, ns := ⟨_, y.toInCall.ns, ?_⟩, cell := ?_, free := ?_ }
   ·intro i x d e1 e2
    have hd := Gw hlen e2
    obtain ⟨v, q1, q2⟩ := rv.get hd
    exact ⟨v, AP EK (CE i x _ v e1 q1) (by rw [se]; exact iT dg.nd e1), q2⟩
   ·intro i x e1
    have hl := iT dg.nd e1
    have := cellsFrom_some fd.scope.names (s.heap.objs.size + 1) [] (x := x) (.inl hl)
    obtain ⟨a, ha⟩ := Option.isSome_iff_exists.mp this
    rw [← I4] at ha
    refine ⟨a, _, ha, Ck e1 ha, y.cell x a ha, fun d hd => ?_⟩
    have hd := Gw hlen hd
    obtain ⟨v, q1, q2⟩ := rv.get hd
    exact ⟨v, AN EK (CE i x _ v e1 q1) (by rw [se, hl]; intro q; cases q), q2⟩
   ·intro i x d e1 _
    exact absurd rfl (dg.nofree _ (List.mem_of_getElem? e1)).1
end
end Ev
end
section
namespace Ev
open PySem PySem.W PySem.Calls PyProof.Rows PySem.SeqAt
noncomputable def i8 (c : Cx) (n : Nat) (v : Value) (sp : List D → Option D) : Prop :=
 ∀ ds d, sp ds = some d → ∀ (A : Around) F X s vs Q Ex, Good n A → G c F X [] [] [] s → aC c.C F [] vs ds → D.aL ds = true →
  (∀ F' r s', aG F F' → G c F' X [] [] [] s' → Rv c.C F' [] r d → d.pure = true → Q r s') → wpAny (model c.prog c.w) A (call v vs) Q Ex s
noncomputable def j4 (c : Cx) (n : Nat) (v : Value) (sp : List D → List D → Option (D × List D)) : Prop :=
 ∀ xs ds d ys, sp xs ds = some (d, ys) → ∀ (A : Around) F X s a vs Q Ex, Good n A → G c F X [] [[a]] [some (.lst xs)] s → aC c.C F [] vs ds → D.aL ds = true → D.aL xs = true →
  (∀ F' r s', aG F F' → G c F' X [] [[a]] [some (.lst ys)] s' → Rv c.C F' [] r d → d.pure = true → D.aL ys = true → Q r s') → wpAny (model c.prog c.w) A (call v (.ref a :: vs)) Q Ex s
noncomputable def rC (c : Cx) (n : Nat) (v : Value) (sp : D → Option D) : Prop :=
 ∀ x d, sp x = some d → ∀ (A : Around) F X s u Q Ex, Good n A → G c F X [] [] [] s → Rv c.C F [] u x → x.pure = true →
  (∀ F' r s', aG F F' → G c F' X [] [] [] s' → Rv c.C F' [] r d → d.pure = true → Q r s') → wpAny (model c.prog c.w) A (call v [u]) Q Ex s
section
variable {c : Cx} {nm : Nm} {X : aT} {fa : List (Option Addr)} {σ σ' σ1 σ2 bf bX : ae} {env : Env} {vars : af} {A : Around} {F F' : FM} {ρ : List (List Addr)} {s s' : Shared}
theorem W.qP {pO : List (Option Addr)} {aQ : List (List Addr)} {σ2 : ae} (w : W c nm X env fa F ρ vars σ s) (g' : G c F' (hid (jm fa ρ σ) X s.heap) pO aQ σ2 s') (le : aG F F') : W c nm X env fa F' ρ vars σ s' := by
 obtain ⟨g2, hk⟩ := w.g.qP g' le
 exact ⟨g2, w.f.to le (List.prefix_refl _) fun i a o hi e => hk a o ⟨.fr i, trivial, bV.mpr hi⟩ e⟩
theorem kG {nm : Nm} {x : Str} (h : cu nm x = true) : nm.lookup x = some .globalImplicit ∧ (x == ("__debug__" : Str)) = false := by
 have h' : (match fM nm x with | some (_, .globalImplicit) => !(x == ("__debug__" : Str)) | _ => false) = true := h
 match hq : fM nm x, h' with
 | some (_, .globalImplicit), h' => exact ⟨EV hq, (Bool.not_eq_true' _).mp (show (!(x == ("__debug__" : Str))) = true from h')⟩
theorem aA.Io {x : Str} {p pos : Pos} {args : List Expr} {v : Value} {n : Nat} {sp : List D → Option D} {ds : List D} {d : D} (Z : cG c) (gd : Good n A) (hx : cu nm x = true) (hg : nsIn c.K mainGlobals x = some (some v)) (hk : keepIn c.K v = true)
  (bB : (starEach args env).all (!·.1) = true) (ha : cy c nm X env fa A (spliced (backTo pos (starEach args env))) vars σ ds σ1) (hc : i8 c n v sp) (hp : D.aL ds = true) (e : sp ds = some d) :
  aA c nm X env fa A (eval (.Call (.Name x p) args [] pos) env) vars σ d σ1 := by
 intro F ρ s Q Ex w post
 obtain ⟨hl, dF⟩ := kG hx
 refine wpAny_bind (w.f.global Z w.g hl hg dF ?_)
 refine qY hk bB (ha F ρ s _ Ex w fun F1 aB vs s1 l1 p1 w1 r1 => ⟨w1.g.K Z, ?_⟩)
 refine hc ds d e A F1 _ s1 vs _ _ gd w1.g.hide (r1.toPure hp) hp fun F2 r s2 l2 g2 r2 hd => ?_
 exact post F2 aB r s2 (l1.trans l2) p1 (w1.qP g2 l2) (r2.toPure hd)
theorem aA.Im {x : Str} {p pos : Pos} {a : Expr} {v : Value} {n : Nat} {sp : D → Option D} {y d : D} (Z : cG c) (gd : Good n A) (hx : cu nm x = true) (hg : nsIn c.K mainGlobals x = some (some v)) (hk : keepIn c.K v = true)
  (hs : starEach [a] env = (false, eval a env) :: starEach [] env) (ha : aA c nm X env fa A (eval a env) vars σ y σ1) (hc : rC c n v sp) (hp : y.pure = true) (e : sp y = some d) :
  aA c nm X env fa A (eval (.Call (.Name x p) [a] [] pos) env) vars σ d σ1 := by
 intro F ρ s Q Ex w post
 obtain ⟨hl, dF⟩ := kG hx
 refine wpAny_bind (w.f.global Z w.g hl hg dF ?_)
 refine qY hk (by rw [hs]; rfl) ((cy.cons (ds := []) hs ha cy.nil) F ρ s _ Ex w fun F1 aB vs s1 l1 p1 w1 r1 => ⟨w1.g.K Z, ?_⟩)
 obtain ⟨u, us, rfl, ru, rn⟩ := r1.inv
 obtain rfl := (rn.inv : us = [])
 refine hc y d e A F1 _ s1 u _ _ gd w1.g.hide (ru.toPure hp) hp fun F2 r s2 l2 g2 r2 hd => ?_
 exact post F2 aB r s2 (l1.trans l2) p1 (w1.qP g2 l2) (r2.toPure hd)
theorem aA.Il {o : Expr} {m : Str} {apos pos : Pos} {args : List Expr} {f : Addr} {n : Nat} {sp : List D → Option D} {as : List (Nat × D)} {ds : List D} {d : D} (Z : cG c) (gd : Good n A) (hb : fg o = true) (hp : (apos.endLine == pos.line) = true) (hn : args.length < 29)
  (hf : findIn c.K (.ref c.C) m = some (some (.ref f))) (ht : isFn c.K (.ref f) = true) (hg : plainGet c.K c.C m = true) (hm : ∀ k, k < 5 → (attrName k == m) = false) (hk : keepIn c.K (.ref f) = true)
  (bB : (starEach args env).all (!·.1) = true) (ho : aA c nm X env fa A (eval o env) vars σ (.inst as) σ1) (ha : cy c nm X env fa A (spliced (backTo pos (starEach args env))) vars σ1 ds σ2)
  (hc : i8 c n (.ref f) sp) (CX : D.aL (.inst as :: ds) = true) (e : sp (.inst as :: ds) = some d) :
  aA c nm X env fa A (eval (.Call (.Attribute o m apos) args [] pos) env) vars σ d σ2 := by
 intro F ρ s Q Ex w post
 refine rA hb hp hn bB (ho F ρ s _ Ex w fun F1 aB v1 s1 l1 p1 w1 r1 => fun pl => ?_)
 obtain ⟨b, dd, es, k, rfl, h1, h2, h3⟩ := w1.g.inst r1 rfl
 have I : InstAt s1.heap b (instObj c.C dd) c.C (some (dictOf es k)) := ⟨h1, rfl, rfl, h2⟩
 refine method_fn (w1.g.K Z) I (plainGet_of hg).1 (plainGet_of hg).2 hf (beq_iff_eq.mp ht) (by show (lookIn m (dictOf es k)).map _ = _; rw [lookIn_dict, h3.miss hm]; rfl) ?_
 refine qY hk bB (ha F1 aB s1 _ Ex w1 fun F2 aQ vs s2 l2 p2 w2 r2 => ⟨w2.g.K Z, ?_⟩)
 have rr : aC c.C F2 aQ (.ref b :: vs) (.inst as :: ds) := .cons (r1.mono l2 p2) r2
 refine hc _ d e A F2 _ s2 _ _ _ gd w2.g.hide (rr.toPure CX) CX fun F3 r s3 l3 g3 r3 hd => ?_
 exact post F3 aQ r s3 ((l1.trans l2).trans l3) (p1.trans p2) (w2.qP g3 l3) (r3.toPure hd)
theorem aA.Ik {x : Str} {p pos : Pos} {o : Expr} {args : List Expr} {v : Value} {n : Nat} {sp : List D → List D → Option (D × List D)} {l : Nat} {xs ys ds : List D} {d : D} (Z : cG c) (gd : Good n A) (hx : cu nm x = true) (hg : nsIn c.K mainGlobals x = some (some v)) (hk : keepIn c.K v = true)
  (bB : (starEach (o :: args) env).all (!·.1) = true) (hs : starEach (o :: args) env = (false, eval o env) :: starEach args env)
  (ho : aA c nm X env fa A (eval o env) vars σ (.loc l) σ1) (ha : cy c nm X env fa A (spliced (backTo pos (starEach args env))) vars σ1 ds σ2) (hl : σ2[l]? = some (some (.lst xs)))
  (hc : j4 c n v sp) (hp : D.aL ds = true) (xn : D.aL xs = true) (e : sp xs ds = some (d, ys)) :
  aA c nm X env fa A (eval (.Call (.Name x p) (o :: args) [] pos) env) vars σ d (σ2.set l (some (.lst ys))) := by
 intro F ρ s Q Ex w post
 obtain ⟨p9, dF⟩ := kG hx
 refine wpAny_bind (w.f.global Z w.g p9 hg dF ?_)
 refine qY hk bB ((cy.cons hs ho ha) F ρ s _ Ex w fun F1 aB vs s1 l1 p1 w1 r1 => ⟨w1.g.K Z, ?_⟩)
 obtain ⟨u, vs, rfl, ru, rn⟩ := r1.inv
 obtain ⟨a, ws, k, rfl, q1, q2, q3⟩ := w1.g.live ru hl
 have hm : eJ c.C F1 [[a]] s1.heap [a] (.lst xs) := .lst q2 (q3.toPure xn)
 refine hc xs ds d ys e A F1 _ s1 a vs _ _ gd (w1.g.KN hl q1 hm) (rn.toPure hp) hp xn fun F2 r s2 l2 g2 r2 hd K7 => ?_
 obtain ⟨r', h1, h2⟩ := g2.objs 0 _ rfl
 cases (h1 : some [a] = some r')
 obtain ⟨a', QW, k', h3, lY, cJ⟩ := h2.inv
 cases h3
 obtain ⟨g3, wU⟩ := w1.g.QI hl q1 g2 l2 (.lst lY (cJ.toPure K7))
 exact post F2 aB r s2 (l1.trans l2) p1 ⟨g3, w1.f.to l2 (List.prefix_refl _) fun i b o hi e => wU b o ⟨i, hi⟩ e⟩ (r2.toPure hd)
end
end Ev
end
section
namespace Ev
open PySem PySem.W PySem.Calls PyProof.Rows PySem.SeqAt
inductive j1 (c : Cx) (F : FM) (ρ : List (List Addr)) : Flow → aI → Prop
 | next : j1 c F ρ .next .next
 | brk : j1 c F ρ .brk .brk
 | cont : j1 c F ρ .cont .cont
 | ret {v : Value} {d : D} (r : Rv c.C F ρ v d) : j1 c F ρ (.ret v) (.ret d)
noncomputable def Hh (c : Cx) (F : FM) (ρ : List (List Addr)) (f : Flow) : aI → Prop := @fun aa => match aa with
 | .next => f = .next
 | .brk => f = .brk
 | .cont => f = .cont
 | .ret d => ∃ v, f = .ret v ∧ Rv c.C F ρ v d
theorem j1.inv {c : Cx} {F : FM} {ρ : List (List Addr)} {f : Flow} {fl : aI} (r : j1 c F ρ f fl) : Hh c F ρ f fl := by
 cases r with
 | next => exact rfl
 | brk => exact rfl
 | cont => exact rfl
 | ret r => exact ⟨_, rfl, r⟩
noncomputable def bh (c : Cx) (nm : Nm) (X : aT) (env : Env) (fa : List (Option Addr)) (A : Around) (t : Sem Flow) (vars : af) (σ : ae) (fl : aI) (vars' : af) (σ' : ae) : Prop :=
 ∀ F ρ s Q Ex, W c nm X env fa F ρ vars σ s → (∀ F' ao f s', aG F F' → ρ <+: ao → W c nm X env fa F' ao vars' σ' s' → j1 c F' ao f fl → Q f s') → wpAny (model c.prog c.w) A t Q Ex s
section
variable {c : Cx} {nm : Nm} {X : aT} {fa : List (Option Addr)} {σ σ' σ1 σ2 bf bX : ae} {env : Env} {vars : af} {A : Around} {F F' : FM} {ρ : List (List Addr)} {s s' : Shared}
theorem G.yC (g : G c F X fa ρ σ s) : G c F X [] [] [] s where
 f := g.f
 x := g.x
 fx := g.fx
 base := g.base
 apart := fun t ξ a ξ ξ h => (oz h).elim
 own := fun t a ξ h => (oz h).elim
 objs := fun l m e => by simp at e
 len := rfl
 gens := g.gens
 os := g.os
 bI := g.bI
 ft := g.ft
theorem eJ.toPure {ao : List (List Addr)} {h : Heap} {r : List Addr} {m : cN} (o : eJ c.C F ρ h r m) (hp : m.toD.pure = true) : eJ c.C F ao h r m := by
 cases o with
 | lst ho hs => exact .lst ho (hs.toPure hp)
 | inst ho hd hs => exact .inst ho hd (hs.toPure hp)
theorem G.Og {r : List Addr} {m : cN} (g : G c F X fa ρ σ s) (hr : ρ[0]? = some r) (hm : σ[0]? = some (some m)) (hp : m.toD.pure = true) : G c F X [] [r] [some m] s := by
 have tg : ∀ t a, cK [some m] t → a ∈ bE [] [r] t → t = .loc 0 ∧ a ∈ r := by
  intro t a h ha
  cases t with
  | fr i => simp [bE] at ha
  | loc k =>
   cases k with
   | zero => exact ⟨rfl, by simpa [bE] using ha⟩
   | succ k => simp [bE] at ha
 refine { f := g.f, x := g.x, fx := g.fx, base := g.base, apart := fun t t' a h h' a1 a2 => by rw [(tg t a h a1).1, (tg t' a h' a2).1], own := fun t a h a1 => ?_, objs := fun k m' e => ?_, len := rfl, gens := g.gens, os := g.os, bI := g.bI, ft := g.ft }
 ·obtain ⟨rfl, fK⟩ := tg t a h a1
  exact g.own (.loc 0) a ⟨m, hm⟩ (by rw [f9 hr]; exact fK)
 ·cases k with
  | zero =>
   simp at e; subst e
   obtain ⟨r', h1, h2⟩ := g.objs 0 _ hm
   rw [hr] at h1; cases h1
   exact ⟨r, rfl, h2.toPure hp⟩
  | succ k => simp at e
noncomputable def BodyOk (c : Cx) (n : Nat) (nm : Nm) (sc : Scope) (Δ : Dl) (m : Nat) (body : List Stmt) (b : List S) : Prop :=
 ∀ (env : Env) fa A X vars σ fl vars' σ', env.scope = sc → Good n A → aJ Δ m b vars σ = some (fl, vars', σ') → bh c nm X env fa A (execs body env) vars σ fl vars' σ'
structure rm (c : Cx) (C : Cc) (f : Addr) (fd : FuncData) (fn : Fn) (as : List Arg) (body : List Stmt) : Prop where
 ok : Ae C fd fn as body
 at_ : ∃ oc od sl, c.K.lookup f = some ⟨oc, od, .func fd, sl⟩
 code : codeIn c.K fd.code fd.qualname = true
theorem G.qx (Z : cG c) (g : G c F X fa ρ σ s) : s.heap.NoLimit := Z.nolimit.keeps fun b o e => g.f b o (g.base b o e)
theorem Jb {o : Option (aI × af × ae)} {d : Ev.D} (h : By o = some d) : ∃ v σ, o = some (.ret d, v, σ) := by
 match o, h with
 | some (.ret _, v, σ), h => cases h; exact ⟨v, σ, rfl⟩
theorem Ja {o : Option (aI × af × ae)} {p : Ev.D × ae} (h : vM o = some p) : ∃ v fl, o = some (fl, v, p.2) ∧ (fl = .ret p.1 ∨ (fl = .next ∧ p.1 = .none)) := by
 match o, h with
 | some (.ret _, v, σ), h => cases h; exact ⟨v, _, rfl, .inl rfl⟩
 | some (.next, v, σ), h => cases h; exact ⟨v, _, rfl, .inr ⟨rfl, rfl⟩⟩
theorem I9 {o : Option (aI × af × ae)} {σ : ae} (h : Bx o = some σ) : ∃ v, o = some (.next, v, σ) := by
 match o, h with
 | some (.next, v, σ), h => cases h; exact ⟨v, rfl⟩
theorem Eg {l : Nat} {m : cN} (h : look σ l = some m) : σ[l]? = some (some m) := by
 unfold look at h
 match hq : σ[l]?, h with
 | some (some m'), h => cases h; rfl
theorem Ni {ys : List Ev.D} (h : oq σ = some ys) : σ[0]? = some (some (.lst ys)) := by
 unfold oq at h
 match hq : look σ 0, h with
 | some (.lst G4), h => cases h; exact Eg hq
theorem Nh {as : List (Nat × Ev.D)} (h : oh σ = some as) : σ[0]? = some (some (.inst as)) := by
 unfold oh at h
 match hq : look σ 0, h with
 | some (.inst Ay), h => cases h; exact Eg hq
theorem pureOf {C : Cc} {f : Addr} {fd : FuncData} {fn : Fn} {as : List Arg} {body : List Stmt} {Δ : Dl} {m n : Nat} (Z : cG c) (h : rm c C f fd fn as body) (hb : BodyOk c n fd.scope.names fd.scope Δ m body fn.body) :
  i8 c (n + 1) (.ref f) (cM Δ m fn) := by
 intro ds d e A F X s vs Q Ex gd g rv hp post
 obtain ⟨hc, e⟩ := bx e
 refine aO e fun d' e1 e => ?_
 obtain ⟨hd, e⟩ := bx e
 cases e
 obtain ⟨vars', σ', he⟩ := Jb e1
 obtain ⟨oc, od, sl, ho⟩ := h.at_
 refine wpAny_call (sq h.ok.toFnOk0 Z g (g.K Z _ _ ho) rfl (codeRec_of (g.K Z) h.code) (g.qx Z) gd.room rv (eq_of_beq (aj hc).1) fun env fa s1 dh w => ?_)
 refine hb env fa (A.deeper env) X _ _ _ _ _ dh.1 gd.deeper he F [] s1 _ _ w fun F' ao fl s2 le ξ w2 r => ?_
 obtain ⟨v, rfl, r2⟩ := r.inv
 exact post F' _ s2 le w2.g.yC (r2.toPure hd) hd
theorem NI {C : Cc} {f : Addr} {fd : FuncData} {fn : Fn} {as : List Arg} {body : List Stmt} {Δ : Dl} {m n : Nat} (Z : cG c) (h : rm c C f fd fn as body) (hb : BodyOk c n fd.scope.names fd.scope Δ m body fn.body) :
  j4 c (n + 1) (.ref f) (eR Δ m fn) := by
 intro xs ds d ys e A F X s a vs Q Ex gd g rv hp xn post
 obtain ⟨oc, od, sl, ho⟩ := h.at_
 obtain ⟨hc, e⟩ := bx e
 refine aO e fun p e1 e => aO e fun G4 e2 e => ?_
 obtain ⟨hd, e⟩ := bx e
 obtain ⟨rfl, rfl⟩ := cg e
 obtain ⟨wM, hd2⟩ := aj hd
 obtain ⟨vars', fl, he, KG⟩ := Ja e1
 have rr : aC c.C F [[a]] (.ref a :: vs) (.loc 0 :: ds) := .cons (.loc ⟨[], rfl⟩) (rv.toPure hp)
 refine wpAny_call (sq h.ok.toFnOk0 Z g (g.K Z _ _ ho) rfl (codeRec_of (g.K Z) h.code) (g.qx Z) gd.room rr (eq_of_beq (aj (aj hc).1).1) fun env fa s1 dh w => ?_)
 refine hb env fa (A.deeper env) X _ _ _ _ _ dh.1 gd.deeper he F _ s1 _ _ w fun F' ao JG s2 le hpre w2 r => ?_
 have hr : ao[0]? = some [a] := qC hpre rfl
 have g2 : G c F' X [] [[a]] [some (.lst G4)] s2 := w2.g.Og hr (Ni e2) hd2
 rcases KG with rfl | ⟨rfl, hn⟩
 ·obtain ⟨v, rfl, r2⟩ := r.inv
  exact post F' _ s2 le g2 (r2.toPure wM) wM hd2
 ·obtain rfl := (r.inv : JG = .next)
  exact post F' _ s2 le g2 (by rw [hn]; exact .none) wM hd2
theorem Good.under {n : Nat} {args : Args} (gd : Good (n + 1) A) (hw : (Code.builtin "type.__call__" args).frames = 0) : Good n (A.under (.builtin "type.__call__" args)) := by
 have h1 : (Code.builtin "type.__call__" args).weight ≤ 1 := by
  unfold Code.weight
  rw [hw]
  have e1 : (Code.builtin "type.__call__" args).isGuard = false := by show guardIds.contains "type.__call__" = false; decide +kernel
  have e2 : (Code.builtin "type.__call__" args).isCaller = false := by unfold Code.isCaller; rfl
  rw [e1, e2]
  split <;> simp
 have h2 : (Code.builtin "type.__call__" args).cUnits = 1 := by show 1 + 3 * (Code.builtin "type.__call__" args).frames = 1; rw [hw]
 have q1 := gd.depth
 have q2 := gd.units
 exact ⟨gd.hh, by show A.depth + _ + n < _; lia, by show A.units + _ + _ + _ < _; lia⟩
theorem newOf {C : Cc} {f : Addr} {fd : FuncData} {fn : Fn} {as : List Arg} {body : List Stmt} {Δ : Dl} {m n : Nat} (Z : cG c) (h : rm c C f fd fn as body) (hb : BodyOk c n fd.scope.names fd.scope Δ m body fn.body)
  (hm : makesIn c.K c.C = true) (hi : findIn c.K (.ref c.C) "__init__" = some (some (.ref f))) (hf : typeIn c.K (.ref f) = some (.type "function")) :
  rC c (n + 2) (.ref c.C) (oJ Δ m fn) := by
 intro x d e A F X s u Q Ex gd g rv hp post
 obtain ⟨oc, od, sl, ho⟩ := h.at_
 obtain ⟨hc, e⟩ := bx e
 refine aO e fun σ' e1 e => aO e fun Ay e2 e => ?_
 obtain ⟨hd, e⟩ := bx e
 cases e
 obtain ⟨vars', he⟩ := I9 e1
 refine wpAny_call ?_
 obtain ⟨hh, gg, dr, t, os⟩ := s
 have XK := g.K Z
 refine make_core (makes_of XK hm) (looks_findIn XK hi) (fun self => bind_fn XK self hf) (.inl rfl) ?_
 have g1 := (g.push emptyDict).push (instObj c.C hh.objs.size)
 have hx : ((hh.push emptyDict).push (instObj c.C hh.objs.size)).get? (hh.objs.size + 1) = some (instObj c.C hh.objs.size) := by
  have := Heap.get?_push_size (hh.push emptyDict) (o := instObj c.C hh.objs.size) rfl
  rwa [Heap.size_push] at this
 have iN : ((hh.push emptyDict).push (instObj c.C hh.objs.size)).get? hh.objs.size = some (dictOf [] 0) := Heap.get?_push_of_some _ (Heap.get?_push_size hh (o := emptyDict) rfl)
 have g2 := g1.EP (r := [hh.objs.size + 1, hh.objs.size]) (m := .inst []) (fun a ha => by
  rcases List.mem_cons.mp ha with rfl | ha
  ·obtain ⟨q1, q2, q3⟩ := g.fresh (gV (Nat.le_succ hh.objs.size))
   exact ⟨q1, q2, q3, _, hx⟩
  ·obtain rfl := List.mem_singleton.mp ha
   obtain ⟨q1, q2, q3⟩ := g.fresh (gV (Nat.le_refl hh.objs.size))
   exact ⟨q1, q2, q3, _, iN⟩) (.inst hx iN .nil)
 have rr : aC c.C F ([] ++ [[hh.objs.size + 1, hh.objs.size]]) [.ref (hh.objs.size + 1), u] [.loc 0, x] := .cons (.loc ⟨[hh.objs.size], rfl⟩) (.cons (rv.toPure hp) .nil)
 refine sq h.ok.toFnOk0 Z g2 (g2.K Z _ _ ho) rfl (codeRec_of (g2.K Z) h.code) (g2.qx Z) (Good.under (n := n + 1) gd rfl).room rr (eq_of_beq (aj hc).1).symm fun env fa s1 dh w => ?_
 refine hb env fa _ X _ _ _ _ _ dh.1 (Good.deeper (Good.under (n := n + 1) gd rfl)) he F _ s1 _ _ w fun F' ao fl s2 le hpre w2 r => ?_
 obtain rfl := (r.inv : fl = .next)
 refine ⟨rfl, ?_⟩
 have hr : ao[0]? = some [hh.objs.size + 1, hh.objs.size] := qC hpre rfl
 obtain ⟨F3, l3, g3, r3⟩ := w2.g.freeze (Nh e2) (v := .ref (hh.objs.size + 1)) (.loc ⟨_, hr⟩)
 exact post F3 _ s2 (le.trans l3) g3.yC (r3.toPure hd) hd
end
end Ev
end
section
namespace Ev
open PySem PySem.W PySem.Calls PyProof.Rows PySem.SeqAt
section
variable {c : Cx} {nm : Nm} {X : aT} {fa : List (Option Addr)} {σ σ' σ1 σ2 bf bX : ae} {env : Env} {vars vars' bG : af} {A : Around} {F F' : FM} {ρ ao : List (List Addr)} {s s' : Shared} {fl : aI}
theorem bh.brk {pos : Pos} : bh c nm X env fa A (exec (.Break pos) env) vars σ .brk vars σ := fun F ρ s Q Ex w post => wpAny_Break (post F ρ _ s aG.rfl (List.prefix_refl _) w .brk)
theorem bh.cont {pos : Pos} : bh c nm X env fa A (exec (.Continue pos) env) vars σ .cont vars σ := fun F ρ s Q Ex w post => wpAny_Continue (post F ρ _ s aG.rfl (List.prefix_refl _) w .cont)
theorem bh.nil : bh c nm X env fa A (execs [] env) vars σ .next vars σ := fun F ρ s Q Ex w post => wpAny_execs_nil (post F ρ _ s aG.rfl (List.prefix_refl _) w .next)
theorem bh.cons {st : Stmt} {r : List Stmt} (h : bh c nm X env fa A (exec st env) vars σ .next bG σ1) (hr : bh c nm X env fa A (execs r env) bG σ1 fl vars' σ') : bh c nm X env fa A (execs (st :: r) env) vars σ fl vars' σ' := by
 intro F ρ s Q Ex w post
 refine wpAny_execs_cons (h F ρ s _ Ex w fun F1 aB f s1 l1 p1 w1 r1 => ?_)
 obtain rfl := (r1.inv : f = .next)
 exact hr F1 aB s1 _ Ex w1 fun F2 aQ f s2 l2 p2 w2 r2 => post F2 aQ f s2 (l1.trans l2) (p1.trans p2) w2 r2
theorem bh.stop {st : Stmt} {r : List Stmt} (h : bh c nm X env fa A (exec st env) vars σ fl vars' σ') (hn : fl ≠ .next) : bh c nm X env fa A (execs (st :: r) env) vars σ fl vars' σ' := by
 intro F ρ s Q Ex w post
 refine wpAny_execs_cons (h F ρ s _ Ex w fun F1 aB f s1 l1 p1 w1 r1 => ?_)
 cases r1 with
 | next => exact absurd rfl hn
 | brk => exact post F1 aB _ s1 l1 p1 w1 .brk
 | cont => exact post F1 aB _ s1 l1 p1 w1 .cont
 | ret r => exact post F1 aB _ s1 l1 p1 w1 (.ret r)
theorem bh.ite {t : Expr} {a b : List Stmt} {pos : Pos} {v : Bool} (h : bN c nm X env fa A (isTrue t env (eval t env)) vars σ v σ1)
  (ha : v = true → bh c nm X env fa A (execs a env) vars σ1 fl vars' σ') (hb : v = false → bh c nm X env fa A (execs b env) vars σ1 fl vars' σ') : bh c nm X env fa A (exec (.If t a b pos) env) vars σ fl vars' σ' := by
 intro F ρ s Q Ex w post
 refine wpAny_If (h F ρ s _ Ex w fun F1 aB s1 l1 p1 w1 => ?_)
 cases v with
 | true => exact ha rfl F1 aB s1 _ Ex w1 fun F2 aQ f s2 l2 p2 w2 r2 => post F2 aQ f s2 (l1.trans l2) (p1.trans p2) w2 r2
 | false => exact hb rfl F1 aB s1 _ Ex w1 fun F2 aQ f s2 l2 p2 w2 r2 => post F2 aQ f s2 (l1.trans l2) (p1.trans p2) w2 r2
theorem JP {d d' : D} (e : Ev.cS σ d = some (d', σ')) : (d' = d ∧ σ' = σ) ∨ ∃ l m, d = .loc l ∧ σ[l]? = some (some m) ∧ d' = m.toD ∧ σ' = σ.set l none := by
 cases d with
 | loc l =>
  have h : (match σ[l]? with | some (some m) => some (m.toD, σ.set l none) | _ => none) = some (d', σ') := e
  match hq : σ[l]?, h with
  | some (some m), h => cases h; exact .inr ⟨l, m, rfl, hq, rfl, rfl⟩
 | _ => exact .inl ⟨(cg e).1.symm, (cg e).2.symm⟩
theorem W.cS {d d' : D} {v : Value} (w : W c nm X env fa F ρ vars σ s) (r : Rv c.C F ρ v d) (e : Ev.cS σ d = some (d', σ')) : ∃ F', aG F F' ∧ W c nm X env fa F' ρ vars σ' s ∧ Rv c.C F' ρ v d' := by
 rcases JP e with ⟨rfl, rfl⟩ | ⟨l, m, rfl, hl, rfl, rfl⟩
 ·exact ⟨F, aG.rfl, w, r⟩
 ·obtain ⟨F', le, g', r'⟩ := w.g.freeze hl r
  exact ⟨F', le, w.iu g' le (List.prefix_refl _), r'⟩
theorem bh.ret {e : Expr} {pos : Pos} {d d' : D} (h : aA c nm X env fa A (eval e env) vars σ d σ1) (hf : Ev.cS σ1 d = some (d', σ')) : bh c nm X env fa A (exec (.Return (some e) pos) env) vars σ (.ret d') vars σ' := by
 intro F ρ s Q Ex w post
 refine wpAny_Return_some (h F ρ s _ Ex w fun F1 aB v s1 l1 p1 w1 r1 => ?_)
 obtain ⟨F2, l2, w2, r2⟩ := w1.cS r1 hf
 exact post F2 aB _ s1 (l1.trans l2) p1 w2 (.ret r2)
theorem bh.expr {e : Expr} {pos : Pos} (h : aA c nm X env fa A (eval e env) vars σ .none σ1) (hi : interactive env = false) (hs : swapsWith e none pos.line env = pure false) : bh c nm X env fa A (exec (.Expr e pos) env) vars σ .next vars σ1 := by
 intro F ρ s Q Ex w post
 refine wpAny_Expr (h F ρ s _ Ex w fun F1 aB v s1 l1 p1 w1 r1 => ?_) hi hs
 obtain rfl := (r1.inv : v = .none)
 exact post F1 aB _ s1 l1 p1 w1 .next
noncomputable def lE (c : Cx) (nm : Nm) (X : aT) (env : Env) (fa : List (Option Addr)) (F : FM) (ρ : List (List Addr)) (Q : Flow → Shared → Prop) (r : Option (aI × af × ae)) : Prop :=
 ∀ fl vars' σ', r = some (fl, vars', σ') → ∀ F' ao f s', aG F F' → ρ <+: ao → W c nm X env fa F' ao vars' σ' s' → j1 c F' ao f fl → Q f s'
inductive Hy (c : Cx) (nm : Nm) (X : aT) (env : Env) (fa : List (Option Addr)) (F : FM) (ρ : List (List Addr)) (Q : Flow → Shared → Prop) (g : af → ae → Option (aI × af × ae)) (s : Shared) : Prop
 | mk (F1 : FM) (aB : List (List Addr)) (bG : af) (σ1 : ae) (l1 : aG F F1) (p1 : ρ <+: aB) (w1 : W c nm X env fa F1 aB bG σ1 s) (r : aI × af × ae) (e1 : g bG σ1 = some r) (post : lE c nm X env fa F ρ Q (g bG σ1))
theorem bh.wh {t : Expr} {b : List Stmt} {pos : Pos} {k : Nat} {cf : af → ae → Option (Bool × ae)} {f : af → ae → Option (aI × af × ae)}
  (hc : ∀ vars σ v σ', cf vars σ = some (v, σ') → bN c nm X env fa A (isTrue t env (eval t env)) vars σ v σ')
  (hb : ∀ vars σ fl vars' σ', f vars σ = some (fl, vars', σ') → bh c nm X env fa A (execs b env) vars σ fl vars' σ')
  (e : eV cf f k vars σ = some (fl, vars', σ')) : bh c nm X env fa A (exec (.While t b [] pos) env) vars σ fl vars' σ' := by
 intro F ρ s Q Ex w post
 have post : lE c nm X env fa F ρ Q (eV cf f k vars σ) := fun B0 v2 s2 q => by
  cases e.symm.trans q; exact post
 refine wpAny_While (codeAny_whileLoop (fun n s => Hy c nm X env fa F ρ Q (eV cf f n) s) ?_ k ⟨F, ρ, vars, σ, aG.rfl, List.prefix_refl _, w, _, e, post⟩)
 clear post e w
 rintro n s1 ⟨F1, aB, bG, σ1, l1, p1, w1, r, e1, post⟩
 cases n with
 | zero => exact nomatch e1
 | succ n =>
  refine aO (show ((cf bG σ1).bind fun p => if p.1 = true then (f bG p.2).bind fun r => ia r (eV cf f n) else some (.next, bG, p.2)) = _ from e1) fun p Ku e2 => ?_
  refine hc _ _ _ _ Ku F1 aB s1 _ _ w1 fun F2 aQ s2 l2 p2 w2 => ?_
  replace post : lE c nm X env fa F ρ Q (if p.1 = true then (f bG p.2).bind fun r => ia r (eV cf f n) else some (.next, bG, p.2)) := e2.symm ▸ e1 ▸ post
  obtain ⟨v, σ2⟩ := p
  cases v with
  | false => exact wpAny_execs_nil (post _ _ _ rfl F2 aQ .next s2 (l1.trans l2) (p1.trans p2) w2 .next)
  | true =>
   refine aO (show ((f bG σ2).bind fun r => ia r (eV cf f n)) = _ from e2) fun q hf e3 => ?_
   replace post : lE c nm X env fa F ρ Q (ia q (eV cf f n)) := e3.symm ▸ e2 ▸ post
   refine hb _ _ _ _ _ hf F2 aQ s2 _ _ w2 fun F3 eF fx s3 l3 p3 w3 r3 => ?_
   have L := (l1.trans l2).trans l3
   have P := (p1.trans p2).trans p3
   obtain ⟨B0, dG, bf⟩ := q
   cases r3 with
   | next => exact ⟨n, Nat.lt_succ_self _, ⟨F3, eF, dG, bf, L, P, w3, r, e3, post⟩⟩
   | cont => exact ⟨n, Nat.lt_succ_self _, ⟨F3, eF, dG, bf, L, P, w3, r, e3, post⟩⟩
   | brk => exact post _ _ _ rfl F3 eF .next s3 L P w3 .next
   | ret r => exact post _ _ _ rfl F3 eF _ s3 L P w3 (.ret r)
noncomputable def b7 (F : FM) (X : aT) (fa : List (Option Addr)) (ρ : List (List Addr)) (σ : ae) (wr : List Addr) : Prop := ∀ b ∈ wr, F.o b = none ∧ X b = none ∧ ∀ t, cK σ t → b ∉ bE fa ρ t
theorem G.nQ {wr : List Addr} (g : G c F X fa ρ σ s) (h : b7 F X fa ρ σ wr) : G c F (hid (· ∈ wr) X s.heap) fa ρ σ s where
 f := g.f
 x := fun b o e => by
  by_cases hb : b ∈ wr
  ·rw [gq hb] at e; exact e
  ·rw [dU hb] at e; exact g.x b o e
 fx := fun b o e => by
  by_cases hb : b ∈ wr
  ·rw [(h b hb).1] at e; cases e
  ·rw [dU hb]; exact g.fx b o e
 base := g.base
 apart := g.apart
 own := fun t b l m => by
  obtain ⟨q1, q2, q3⟩ := g.own t b l m
  refine ⟨q1, ?_, q3⟩
  by_cases hb : b ∈ wr
  ·exact absurd m ((h b hb).2.2 t l)
  ·rw [dU hb]; exact q2
 objs := g.objs
 len := g.len
 gens := g.gens
 os := g.os
 bI := g.bI
 ft := g.ft
theorem G.mT {wr : List Addr} {h0 : Heap} (hX : ∀ b ∈ wr, X b = none) (hl : ∀ b ∈ wr, ∃ o, h0.get? b = some o) (g : G c F (hid (· ∈ wr) X h0) fa ρ σ s) :
  G c F X fa ρ σ s ∧ (∀ b ∈ wr, ∀ o, h0.get? b = some o → s.heap.get? b = some o) ∧ b7 F X fa ρ σ wr := by
 have nx : ∀ b o, X b = some o → ¬ b ∈ wr := fun b o e hb => by rw [hX b hb] at e; cases e
 refine ⟨{ f := g.f, x := fun b o e => g.x b o (by rw [dU (nx b o e)]; exact e), fx := fun b o e => ?_, base := g.base, apart := g.apart, own := fun t b l m => ?_, objs := g.objs, len := g.len, gens := g.gens, os := g.os, bI := g.bI, ft := g.ft },
  fun b hb o e => g.x b o (by rw [gq hb]; exact e), fun b hb => ⟨?_, hX b hb, fun t l m => ?_⟩⟩
 ·have := g.fx b o e
  by_cases hb : b ∈ wr
  ·exact hX b hb
  ·rwa [dU hb] at this
 ·obtain ⟨q1, q2, q3⟩ := g.own t b l m
  refine ⟨q1, ?_, q3⟩
  by_cases hb : b ∈ wr
  ·exact hX b hb
  ·rwa [dU hb] at q2
 ·cases e : F.o b with
  | none => rfl
  | some o =>
   have := g.fx b o e
   obtain ⟨o', q⟩ := hl b hb
   rw [gq hb, q] at this; cases this
 ·have := (g.own t b l m).2.1
  obtain ⟨o', q⟩ := hl b hb
  rw [gq hb, q] at this; cases this
theorem W.nQ {wr : List Addr} (w : W c nm X env fa F ρ vars σ s) (h : b7 F X fa ρ σ wr) : W c nm (hid (· ∈ wr) X s.heap) env fa F ρ vars σ s := by
 refine ⟨w.g.nQ h, { w.f with free := ?_ }⟩
 intro i x d h1 h2
 obtain ⟨b, o', v, q1, q2, q3, q4⟩ := w.f.free i x d h1 h2
 have hb : ¬ b ∈ wr := fun hb => by rw [(h b hb).2.1] at q2; cases q2
 exact ⟨b, o', v, q1, by rw [dU hb]; exact q2, q3, q4⟩
theorem W.mT {wr : List Addr} {h0 : Heap} (hX : ∀ b ∈ wr, X b = none) (hl : ∀ b ∈ wr, ∃ o, h0.get? b = some o ∧ ∀ w, o.data ≠ .cell w) (w : W c nm (hid (· ∈ wr) X h0) env fa F ρ vars σ s) :
  W c nm X env fa F ρ vars σ s ∧ (∀ b ∈ wr, ∀ o, h0.get? b = some o → s.heap.get? b = some o) ∧ b7 F X fa ρ σ wr := by
 obtain ⟨g, k, q⟩ := w.g.mT hX fun b hb => let ⟨o, e, _⟩ := hl b hb; ⟨o, e⟩
 refine ⟨⟨g, { w.f with free := ?_ }⟩, k, q⟩
 intro i x d h1 h2
 obtain ⟨b, o', v, q1, q2, q3, q4⟩ := w.f.free i x d h1 h2
 by_cases hb : b ∈ wr
 ·obtain ⟨o, e, hn⟩ := hl b hb
  rw [gq hb, e] at q2; cases q2
  exact absurd q3 (hn _)
 ·exact ⟨b, o', v, q1, by rwa [dU hb] at q2, q3, q4⟩
end
end Ev
end
section
namespace Ev
open PySem PySem.W PySem.Calls PyProof.Rows PySem.SeqAt
section
variable {prog : Program} {w : World} {A : Around} {E : Value → Shared → Prop} {s : Shared}
theorem Bl {it t : Addr} {items : Array Value} (bH : t ≠ it) : ∀ (n i : Nat) (s : Shared) (Q : List Value → Shared → Prop), s.heap.IsListIter it t i → s.heap.IsList t items → i + n ≤ items.size →
  (∀ h', h'.IsListIter it t (i + n) → Heap.SameBut it s.heap h' → Q ((items.toList.drop i).take n) { s with heap := h' }) → wpAny (model prog w) A (draw (.ref it) n) Q E s := @fun aa => @(match aa with
 | 0 => @fun i s Q hit ξ ξ hQ => by
  show wpAny _ _ (pure []) Q E s
  exact wpAny_pure (by simpa using hQ s.heap hit (Heap.SameBut.refl ..))
 | n + 1 => @fun i s Q hit ht hle hQ => by
  have aZ : i < items.size := by lia
  show wpAny _ _ (pyNext (.ref it) >>= _) Q E s
  refine wpAny_bind (wpAny_pyNext_list_item hit ht (x := items[i]) (by simp [aZ]) fun mj wR qh => ?_)
  refine wpAny_bind (wpAny_holding (Bl bH n (i + 1) _ _ wR (ht.extBut qh.extBut bH) (by lia) fun mq KP Lf => wpAny_pure ?_))
  have hd : items.toList.drop i = items[i] :: items.toList.drop (i + 1) := by simp [List.drop_eq_getElem_cons, aZ]
  have := hQ mq (by rw [show i + (n + 1) = i + 1 + n by lia]; exact KP) (qh.trans Lf)
  rw [hd, List.take_succ_cons] at this
  exact this)
theorem GX {t : Addr} {items : Array Value} {Q : List Value → Shared → Prop} (hh : A.handled = none) (ht : s.heap.IsList t items)
  (hQ : ∀ h', Heap.ExtBut s.heap.objs.size s.heap h' → Q items.toList { s with heap := h' }) : wpAny (model prog w) A (unpackItems (.ref t) items.size none) Q E s := by
 have aZ : t ≠ s.heap.objs.size := by obtain ⟨o, ho, _⟩ := ht; exact Nat.ne_of_lt (Heap.lt_size ho)
 unfold unpackItems
 refine wpAny_bind ?_
 unfold notIterableAtAll
 refine wpAny_bind (wpAny_specialOf ht.typeIs slot_list_iter.lookup ?_)
 refine wpAny_pure ?_
 simp only [Bool.false_eq_true, if_false]
 refine wpAny_bind (wpAny_holding (wpAny_pyIter_list ht ?_))
 refine wpAny_bind (wpAny_holding (Bl aZ items.size 0 _ _ ⟨_, Heap.get?_push_size _ rfl, rfl, rfl⟩ (ht.push _) (by lia) fun mj wR qh => ?_))
 have jM : List.take items.size (List.drop 0 items.toList) = items.toList := by
  rw [List.drop_zero]; exact List.take_of_length_le (by simp)
 rw [jM]
 rw [if_neg (by simp)]
 have Lk : mj.IsList t items := (ht.push _).extBut qh.extBut aZ
 refine wpAny_bind (wpAny_holding (wpAny_pyNext_list_end hh wR Lk (by simp) fun mq Ky => ?_))
 simp only [Option.isSome_none, Bool.false_eq_true, if_false]
 refine wpAny_pure (hQ mq fun b o hb e => Ky b o hb (qh.extBut b o hb (Heap.get?_push_of_some _ e)))
end
noncomputable def eH (c : Cx) (nm : Nm) (X : aT) (env : Env) (fa : List (Option Addr)) (A : Around) (t : Value → Sem Unit) (d : D) (vars vars' : af) : Prop :=
 ∀ F ρ σ s v Q Ex, W c nm X env fa F ρ vars σ s → Rv c.C F ρ v d → (∀ s', W c nm X env fa F ρ vars' σ s' → Q () s') → wpAny (model c.prog c.w) A (t v) Q Ex s
theorem PK {vars vars' : af} {i : Nat} {d : D} (e : cO vars i d = some vars') : i < vars.length ∧ vars' = vars.set i (some d) := by
 unfold cO at e; split at e
 ·rename_i h; cases e; exact ⟨h, rfl⟩
 ·cases e
set_option tactic.hygienic true in
theorem rW {nm : Nm} {x : Str} {i : Nat} (e : ie nm x = some i) : ∃ k, fM nm x = some (i, k) ∧ (k = .local ∨ k = .cell) := by
 unfold ie at e
 split at e
 ·rename_i j h; cases e; exact ⟨_, h, .inl rfl⟩
 ·rename_i j h; cases e; exact ⟨_, h, .inr rfl⟩
 ·cases e
section
variable {c : Cx} {nm : Nm} {X : aT} {fa : List (Option Addr)} {σ σ' σ1 : ae} {env : Env} {vars vars' bG : af} {A : Around} {F F' : FM} {ρ ao : List (List Addr)} {s s' : Shared}
theorem eH.store {x : Str} {i : Nat} {d : D} (e : ie nm x = some i) (h : cO vars i d = some vars') : eH c nm X env fa A (fun v => storeName env x v) d vars vars' := by
 intro F ρ σ s v Q Ex w r post
 obtain ⟨k, h1, h2⟩ := rW e
 obtain ⟨h3, rfl⟩ := PK h
 exact w.f.store w.g (kN h1) h2 r fun s' g f => post s' ⟨g, f⟩
theorem eH.bind {x : Str} {i : Nat} {d : D} (e : ie nm x = some i) (h : cO vars i d = some vars') : eH c nm X env fa A (bindName env x) d vars vars' :=
 fun F ρ σ s v Q Ex w r post => wpAny_bindName (eH.store e h F ρ σ s v Q Ex w r post)
theorem eH.name {x : Str} {p : Pos} {i : Nat} {d : D} (e : ie nm x = some i) (h : cO vars i d = some vars') : eH c nm X env fa A (assign (.Name x p) env) d vars vars' :=
 fun F ρ σ s v Q Ex w r post => wpAny_assign_Name (eH.store e h F ρ σ s v Q Ex w r post)
theorem z8 {es : List (Value → Sem Unit)} {ds : List D} : ∀ {is : List Nat} {vs : List Value} {vars vars' : af} {s : Shared} {σ : ae} {F : FM} {ρ : List (List Addr)} {Q : Unit → Shared → Prop} {Ex : Value → Shared → Prop},
  es.length = is.length → (∀ (k : Nat) t i, es[k]? = some t → is[k]? = some i → ∀ vars vars' d, cO vars i d = some vars' → eH c nm X env fa A t d vars vars') →
  W c nm X env fa F ρ vars σ s → aC c.C F ρ vs ds → cX vars is ds = some vars' → (∀ s', W c nm X env fa F ρ vars' σ s' → Q () s') → wpAny (model c.prog c.w) A (assignInOrder es vs) Q Ex s := by
 induction es generalizing ds with
 | nil =>
  intro is vs vars vars' s σ F ρ Q Ex hl ht w r e post
  cases is with
  | cons i is => simp at hl
  | nil =>
   cases r with
   | nil => simp [cX] at e; subst e; unfold assignInOrder; exact wpAny_pure (post s w)
   | cons _ _ => simp [cX] at e
 | cons t es ih =>
  intro is vs vars vars' s σ F ρ Q Ex hl ht w r e post
  cases is with
  | nil => simp at hl
  | cons i is =>
   cases r with
   | nil => simp [cX] at e
   | @cons v d vs ds r rs =>
    unfold cX at e
    obtain ⟨bG, e1, e2⟩ := Option.bind_eq_some_iff.mp e
    unfold assignInOrder
    refine wpAny_bind (wpAny_holding (ht 0 t i rfl rfl _ _ _ e1 F ρ σ s v _ Ex w r fun s1 w1 => ?_))
    exact ih (by simpa using hl) (fun k t' i' a b => ht (k + 1) t' i' (by simpa using a) (by simpa using b)) w1 rs e2 post
theorem xP : ∀ {es : List Expr} {is : List Nat}, b9.isTs nm is es = true →
  es.length = is.length ∧ (assignEach es env).length = is.length ∧ (assignEach es env).findIdx? (·.1) = none ∧ (∀ (k : Nat) t i, ((assignEach es env).map (·.2))[k]? = some t → is[k]? = some i → ∃ x p, es[k]? = some (.Name x p) ∧ t = assign (.Name x p) env ∧ ie nm x = some i) := @fun aa ak => @(match aa, ak with
 | [], [] => @fun h => ⟨rfl, rfl, rfl, fun k t i a ξ => by cases a⟩
 | [], υ1 :: υ2 => @fun h => by first | exact au h | exact ai h | exact nomatch h
 | υ1 :: υ2, [] => @fun h => by first | exact au h | exact ai h | exact nomatch h
 | e :: es, i :: is => @fun h => by
  obtain ⟨h1, h3⟩ := Bool.and_eq_true_iff.mp h
  obtain ⟨q1, q2, q3, q4⟩ := xP h3
  obtain ⟨x, p, rfl, hx⟩ : ∃ x p, e = .Name x p ∧ ie nm x = some i := by
   split at h1
   ·exact ⟨_, _, rfl, eq_of_beq h1⟩
   ·cases h1
  refine ⟨congrArg (· + 1) q1, congrArg (· + 1) q2, ?_, ?_⟩
  ·show List.findIdx? _ ((false, assign (.Name x p) env) :: assignEach es env) = none
   rw [List.findIdx?_cons, q3]; rfl
  ·intro k t j a b
   cases k with
   | zero =>
    have a' : some (assign (.Name x p) env) = some t := a
    have b' : some i = some j := b
    cases a'; cases b'
    exact ⟨x, p, rfl, rfl, hx⟩
   | succ k => exact q4 k t j a b)
theorem tH {i : Nat} {t : Expr} (h : b9 nm (.var i) t = true) : ∃ x p, t = .Name x p ∧ ie nm x = some i := by
 unfold b9 at h
 dsimp only at h
 split at h
 ·exact ⟨_, _, rfl, eq_of_beq h⟩
 ·cases h
theorem qp {is : List Nat} {t : Expr} (h : b9 nm (.tup is) t = true) : ∃ es n p, t = .Tuple es n p ∧ b9.isTs nm is es = true := by
 unfold b9 at h
 dsimp only at h
 split at h
 ·exact ⟨_, _, _, rfl, h⟩
 ·cases h
theorem Az {is : List Nat} {d : D} (h : cz (.tup is) d vars = some vars') : ∃ ds, (d = .tup ds ∨ d = .lst ds) ∧ is.length = ds.length ∧ cX vars is ds = some vars' := by
 cases d with
 | tup ds =>
  have h' : (if (is.length == ds.length) = true then cX vars is ds else none) = some vars' := h
  split at h'
  ·rename_i hl; exact ⟨ds, .inl rfl, eq_of_beq hl, h'⟩
  ·cases h'
 | lst ds =>
  have h' : (if (is.length == ds.length) = true then cX vars is ds else none) = some vars' := h
  split at h'
  ·rename_i hl; exact ⟨ds, .inr rfl, eq_of_beq hl, h'⟩
  ·cases h'
 | _ => (first | exact au h | exact ai h | exact nomatch h)
theorem eH.target (hh : A.handled = none) {t : Expr} {T : Ev.T} {d : D} (e : b9 nm T t = true) (h : cz T d vars = some vars') : eH c nm X env fa A (assign t env) d vars vars' := by
 cases T with
 | var i =>
  obtain ⟨x, p, rfl, h1⟩ := tH e
  exact eH.name h1 h
 | tup is =>
  obtain ⟨es, n, p, rfl, h1⟩ := qp e
  obtain ⟨q1, q2, q3, q4⟩ := xP (env := env) h1
  have step : ∀ (k : Nat) t i, ((assignEach es env).map (·.2))[k]? = some t → is[k]? = some i → ∀ vars vars' d, cO vars i d = some vars' → eH c nm X env fa A t d vars vars' := by
   intro k t i a b vars vars' d hs
   obtain ⟨x, p, _, rfl, hx⟩ := q4 k t i a b
   exact eH.name hx hs
  intro F ρ σ s v Q Ex w r post
  obtain ⟨ds, hd, hlen, h2⟩ := Az h
  clear h
  rcases hd with rfl | rfl
  ·obtain ⟨a, vs, rfl, hl, hs⟩ := w.g.tuple (.old r)
   have eZ : (assignEach es env).length = vs.toArray.size := by rw [q2, hlen, ← hs.length]; rfl
   refine wpAny_assign_Tuple hh hl eZ q3 fun h' he => ?_
   have w' : W c nm X env fa F ρ vars σ { s with heap := h' } := w.keep (Kp.mk' (tk := s.toks) (fun b o e => he b o (Nat.ne_of_lt (Heap.lt_size e)) e) (Nat.le_refl _))
   exact z8 (by rw [List.length_map, q2]) step w' hs h2 post
  ·obtain ⟨a, vs, rfl, hl, hs⟩ := w.g.list (.old r)
   have eZ : (assignEach es env).length = vs.toArray.size := by rw [q2, hlen, ← hs.length]; rfl
   rw [arm_assign_Tuple]
   refine wpAny_bind (wpAny_standAt ?_)
   unfold unpack
   rw [eZ, q3]
   refine wpAny_bind (wpAny_holding (GX hh hl fun h' he => ?_))
   have w' : W c nm X env fa F ρ vars σ { s with heap := h' } := w.keep (Kp.mk' (tk := s.toks) (fun b o e => he b o (Nat.ne_of_lt (Heap.lt_size e)) e) (Nat.le_refl _))
   exact z8 (by rw [List.length_map, q2]) step w' hs h2 post
theorem AA {t : Expr} {ts : List Expr} {T : Ev.T} (h1 : b9 nm T t = true) : assignEach (t :: ts) env = (false, assign t env) :: assignEach ts env := by
 cases T with
 | var i => obtain ⟨x, p, rfl, _⟩ := tH h1; rfl
 | tup is => obtain ⟨es, n, p, rfl, _⟩ := qp h1; rfl
theorem z7 (hh : A.handled = none) : ∀ {ts : List Expr} {Ts : List Ev.T} {d : D} {v : Value} {vars vars' : af} {s : Shared} {σ : ae} {F : FM} {ρ : List (List Addr)} {Q : Unit → Shared → Prop} {Ex : Value → Shared → Prop},
  jD nm Ts ts = true → iJ Ts d vars = some vars' → W c nm X env fa F ρ vars σ s → Rv c.C F ρ v d → (∀ s', W c nm X env fa F ρ vars' σ s' → Q () s') →
  wpAny (model c.prog c.w) A (assignAll v ((assignEach ts env).map (·.2))) Q Ex s := @fun aa ak => @(match aa, ak with
 | [], [] => @fun d v vars vars' s σ F ρ Q Ex hc h w r post => by
  have h' : some vars = some vars' := h
  cases h'
  exact wpAny_pure (post s w)
 | [], υ1 :: υ2 => @fun d v vars vars' s σ F ρ Q Ex hc h w r post => by first | exact au hc | exact ai hc | exact nomatch hc
 | υ1 :: υ2, [] => @fun d v vars vars' s σ F ρ Q Ex hc h w r post => by first | exact au hc | exact ai hc | exact nomatch hc
 | t :: ts, T :: Ts => @fun d v vars vars' s σ F ρ Q Ex hc h w r post => by
  obtain ⟨h1, h3⟩ := Bool.and_eq_true_iff.mp hc
  obtain ⟨bG, h5, h6⟩ := Option.bind_eq_some_iff.mp (h : (cz T d vars).bind (iJ Ts d) = some vars')
  have one := eH.target (c := c) (X := X) (fa := fa) (env := env) (A := A) hh h1 h5
  rw [AA (env := env) (ts := ts) h1]
  match ts, Ts, h3, h6 with
  | [], [], h3, h6 =>
   have h' : some bG = some vars' := h6
   cases h'
   exact one F ρ σ s v Q Ex w r post
  | [], _ :: _, h3, h6 => (first | exact au h3 | exact ai h3 | exact nomatch h3)
  | _ :: _, [], h3, h6 => (first | exact au h3 | exact ai h3 | exact nomatch h3)
  | t' :: zP, T' :: Ts', h3, h6 =>
   have ih : ∀ s1, W c nm X env fa F ρ bG σ s1 → wpAny (model c.prog c.w) A (assignAll v ((assignEach (t' :: zP) env).map (·.2))) Q Ex s1 := fun s1 w1 => z7 hh h3 h6 w1 r post
   rw [AA (env := env) (ts := zP) (Bool.and_eq_true_iff.mp h3).1] at ih ⊢
   exact wpAny_bind (wpAny_holding (one F ρ σ s v _ Ex w r fun s1 w1 => ih s1 w1)))
end
end Ev
end
section
namespace Ev
open PySem PySem.W PySem.Calls PyProof.Rows PySem.SeqAt
theorem Gg : ∀ {is : List Nat} {ds : List D} {vars : af} {i : Nat} {d : D}, is.length = ds.length → cX vars (is ++ [i]) (ds ++ [d]) = (cX vars is ds).bind fun v => cO v i d := @fun aa ak => @(match aa, ak with
 | [], [] => @fun vars i d ξ => by
  show (cO vars i d).bind (fun v => cX v [] []) = _
  cases h : cO vars i d <;> simp [cX, h]
 | [], υ1 :: υ2 => @fun ξ ξ ξ h => by simp at h
 | υ1 :: υ2, [] => @fun ξ ξ ξ h => by simp at h
 | j :: is, e :: ds => @fun vars i d h => by
  show (cO vars j e).bind (fun v => cX v (is ++ [i]) (ds ++ [d])) = ((cO vars j e).bind fun v => cX v is ds).bind fun v => cO v i d
  rw [Option.bind_assoc]
  congr 1; funext v
  exact Gg (by simpa using h))
theorem PJ {vars : af} {i j : Nat} {a b : D} (h : i ≠ j) : ((cO vars i a).bind fun v => cO v j b) = ((cO vars j b).bind fun v => cO v i a) := by
 unfold cO
 by_cases hi : i < vars.length <;> by_cases hj : j < vars.length <;> simp [hi, hj, List.set_comm _ _ h]
theorem Ge : ∀ {is : List Nat} {ds : List D} {vars : af} {i : Nat} {d : D}, i ∉ is → ((cO vars i d).bind fun v => cX v is ds) = ((cX vars is ds).bind fun v => cO v i d) := @fun aa ak => @(match aa, ak with
 | [], [] => @fun vars i d ξ => by simp [cX]
 | [], υ1 :: υ2 => @fun vars i d ξ => by simp [cX]
 | υ1 :: υ2, [] => @fun vars i d ξ => by simp [cX]
 | j :: is, e :: ds => @fun vars i d h => by
  simp only [List.mem_cons, not_or] at h
  show ((cO vars i d).bind fun v => (cO v j e).bind fun v => cX v is ds) = (((cO vars j e).bind fun v => cX v is ds).bind fun v => cO v i d)
  rw [← Option.bind_assoc, PJ h.1, Option.bind_assoc, Option.bind_assoc]
  congr 1; funext v
  exact Ge h.2)
theorem Gf : ∀ {is : List Nat} {ds : List D} {vars : af}, is.Nodup → is.length = ds.length → cX vars is.reverse ds.reverse = cX vars is ds := @fun aa ak => @(match aa, ak with
 | [], [] => @fun ξ ξ ξ => rfl
 | [], υ1 :: υ2 => @fun ξ ξ h => by simp at h
 | υ1 :: υ2, [] => @fun ξ ξ h => by simp at h
 | i :: is, d :: ds => @fun vars nd h => by
  simp only [List.nodup_cons] at nd
  have hl : is.length = ds.length := by simpa using h
  rw [List.reverse_cons, List.reverse_cons, Gg (by simpa using hl), Gf nd.2 hl, ← Ge nd.1]
  rfl)
section
variable {c : Cx} {nm : Nm} {X : aT} {fa : List (Option Addr)} {σ σ' σ1 σ2 bf : ae} {env : Env} {vars vars' bG : af} {A : Around} {F F' : FM} {ρ ao : List (List Addr)} {s s' : Shared}
theorem NZ {names : List Str} (h : names.length = 2 ∨ names.length = 3) (e : names.eraseDups.length = names.length) : names.Nodup := by
 rcases h with h | h
 ·match names, h with
  | [a, b], _ =>
   have : a ≠ b := by
    intro q; subst q
    simp [List.eraseDups_cons] at e
   simp [this]
 ·match names, h with
  | [a, b, d], _ =>
   have h1 : a ≠ b := by
    intro q; subst q
    by_cases q2 : d = a
    ·subst q2; simp [List.eraseDups_cons] at e
    ·simp [List.eraseDups_cons, q2] at e
   have h2 : a ≠ d := by
    intro q; subst q
    have wz : ¬ b = a := fun q => h1 q.symm
    simp [List.eraseDups_cons, wz] at e
   have h3 : b ≠ d := by
    intro q; subst q
    have wz : ¬ b = a := fun q => h1 q.symm
    simp [List.eraseDups_cons, wz] at e
   simp [h1, h2, h3]
theorem BW {α β : Type} {f : α → Option β} : ∀ {l : List α}, (l.filterMap f).length = l.length → ∀ (k : Nat) x, l[k]? = some x → ∃ y, f x = some y ∧ (l.filterMap f)[k]? = some y := @fun aa => @(match aa with
 | [] => @fun ξ k x h => by simp at h
 | a :: l => @fun hl k x h => by
  rw [List.filterMap_cons] at hl ⊢
  cases e : f a with
  | none =>
   rw [e] at hl
   have := List.length_filterMap_le f l
   rw [List.length_cons] at hl
   dsimp only at hl
   lia
  | some y =>
   rw [e] at hl
   rw [List.length_cons, List.length_cons] at hl
   have hl := Nat.succ.inj hl
   cases k with
   | zero => simp at h; subst h; exact ⟨y, e, rfl⟩
   | succ k =>
    obtain ⟨z, q1, q2⟩ := BW hl k x (by simpa using h)
    exact ⟨z, q1, by simpa using q2⟩)
theorem n9 {α : Type} {p : Prop} [Decidable p] {x y : α} {G : α → Prop} (h1 : p → G x) (h2 : ¬ p → G y) : G (if p then x else y) := by
 by_cases h : p
 ·rw [if_pos h]; exact h1 h
 ·rw [if_neg h]; exact h2 h
structure Ao (ts : List Expr) (names : List Str) : Prop where
 nd : names.Nodup
 len : names.length = ts.length
 get : ∀ (k : Nat) t, ts[k]? = some t → ∃ x pp, t = .Name x pp ∧ names[k]? = some x
noncomputable def nq (ts : List Expr) (r : Sem (Option (List Str))) : Prop := r = pure none ∨ ∃ names, r = pure (some names) ∧ Ao ts names
theorem Qk {ts vs : List Expr} {n m : Nat} {p q : Pos} (hk : (vs.all (foldedForSure 8) || !(vs.all (constantsAlone 8))) = true) (hb : env.blockKind = .function) : nq ts (swappedStores [.Tuple ts n p] (.Tuple vs m q) env) := by
 refine n9 (G := nq ts) (fun ξ => .inl rfl) fun h1 => ?_
 refine n9 (G := nq ts) (fun ξ => .inl rfl) fun ξ => ?_
 refine n9 (G := nq ts) (fun ξ => .inl rfl) fun h2 => ?_
 refine n9 (G := nq ts) (fun ξ => .inl rfl) fun h3 => ?_
 refine n9 (G := nq ts) (fun h4 => ?_) fun ξ => .inr ⟨_, rfl, ?_⟩
 ·rw [h4, Bool.eq_false_iff.mpr h3] at hk; exact ai hk
 ·rw [Bool.or_eq_true, not_or] at h1 h2
  have hd := Decidable.byContradiction (fun z => h2.1 (bne_iff_ne.mpr z))
  have he := Decidable.byContradiction (fun z => h2.2 (bne_iff_ne.mpr z))
  have ha := h1.1
  rw [Bool.or_eq_true, not_or] at ha
  have hlen : ts.length = 2 ∨ ts.length = 3 := by
   have hb := Bool.eq_false_iff.mpr ha.1
   rw [Bool.not_eq_false', Bool.or_eq_true, beq_iff_eq, beq_iff_eq] at hb
   exact hb
  refine ⟨NZ (by rw [hd]; exact hlen) he, hd, fun k t KV => ?_⟩
  obtain ⟨y, q1, q2⟩ := BW hd k t KV
  cases t with
  | Name x pp =>
   obtain ⟨_, q3⟩ := bx q1
   exact ⟨x, pp, rfl, q2.trans q3.symm⟩
  | _ => exact au q1
inductive rG (nm : Nm) (env : Env) : List Expr → List Ev.T → Expr → Prop
 | no {ts Ts v} (h : swappedStores ts v env = pure none) : rG nm env ts Ts v
 | tup {es n p is vs m q} (h : b9.isTs nm is es = true) : rG nm env [.Tuple es n p] [.tup is] (.Tuple vs m q)
theorem Qj : ∀ {ts : List Expr} {Ts : List Ev.T} {v : Expr}, jD nm Ts ts = true → rG nm env ts Ts v := @fun aa ak => @(match aa, ak with
 | [], υ1 => @fun ξ ξ => .no rfl
 | υ1 :: υ2, [] => @fun ξ h => nomatch h
 | υ1 :: ts, .var i :: υ2 => @fun v h => by
  obtain ⟨x, p', rfl, _⟩ := tH (Bool.and_eq_true_iff.mp h).1
  exact .no rfl
 | υ1 :: ts, .tup is :: Ts => @fun v h => by
  obtain ⟨h1, h2⟩ := Bool.and_eq_true_iff.mp h
  obtain ⟨es, n, p, rfl, h3⟩ := qp h1
  match ts, Ts, h2 with
  | _ :: _, _, _ => exact .no rfl
  | [], _ :: _, h2 => exact nomatch h2
  | [], [], _ =>
   cases v with
   | Tuple => exact .tup h3
   | _ => exact .no rfl)
structure rD (nm : Nm) (names : List Str) (is : List Nat) : Prop where
 len : names.length = is.length
 nd : is.Nodup
 num : ∀ (k : Nat) x i, names[k]? = some x → is[k]? = some i → ie nm x = some i
theorem rD.to {es : List Expr} {is : List Nat} {names : List Str} (h3 : b9.isTs nm is es = true) (w : Ao es names) (env : Env) : rD nm names is := by
 obtain ⟨q1, q2, _, q4⟩ := xP (env := env) h3
 have qc : names.length = is.length := w.len.trans q1
 have num : ∀ (k : Nat) x i, names[k]? = some x → is[k]? = some i → ie nm x = some i := by
  intro k x i a b
  have hk : k < ((assignEach es env).map (·.2)).length := by rw [List.length_map, q2]; exact (List.getElem?_eq_some_iff.mp b).1
  obtain ⟨y, pp, z1, _, z2⟩ := q4 k _ i (List.getElem?_eq_getElem hk) b
  obtain ⟨y', Rp, z3, z4⟩ := w.get k _ z1
  cases z3
  rw [a] at z4; cases z4
  exact z2
 refine ⟨qc, ?_, num⟩
 refine List.pairwise_iff_getElem.mpr fun i j hi hj fT Kx => ?_
 have gp := Nat.lt_of_lt_of_eq hi qc.symm
 have nT := Nat.lt_of_lt_of_eq hj qc.symm
 have a1 := num i _ _ (List.getElem?_eq_getElem gp) (List.getElem?_eq_getElem hi)
 have a2 := num j _ _ (List.getElem?_eq_getElem nT) (List.getElem?_eq_getElem hj)
 rw [Kx] at a1
 obtain ⟨k1, b1, _⟩ := rW a1
 obtain ⟨k2, b2, _⟩ := rW a2
 exact List.pairwise_iff_getElem.mp w.nd i j gp nT fT (congrArg Prod.fst (Option.some.inj ((kN b1).symm.trans (kN b2)))).symm.symm
theorem aC.rev {C : Addr} {F : FM} {ρ : List (List Addr)} {vs : List Value} {xs : List D} (h : aC C F ρ vs xs) : aC C F ρ vs.reverse xs.reverse := by
 induction vs generalizing xs with
 | nil => cases h; exact .nil
 | cons v vs ih => cases h with | cons h hs => rw [List.reverse_cons, List.reverse_cons]; exact (ih hs).append (.cons h .nil)
theorem Qi {names : List Str} {is : List Nat} (N : rD nm names is) {vs : List Value} {ds : List D} {Q : Flow → Shared → Prop} {Ex} (w : W c nm X env fa F ρ vars σ s) (rs : aC c.C F ρ vs ds) (hl : is.length = ds.length) (e : cX vars is ds = some vars')
  (post : ∀ s', W c nm X env fa F ρ vars' σ s' → Q .next s') :
  wpAny (model c.prog c.w) A (assignInOrder (names.reverse.map fun n => bindName env n) vs.reverse >>= fun ξ => (pure Flow.next : Sem Flow)) Q Ex s := by
 refine wpAny_bind (z8 (is := is.reverse) (by rw [List.length_map, List.length_reverse, List.length_reverse, N.len]) ?_ w rs.rev ((Gf N.nd hl).trans e) fun s3 w3 => wpAny_pure (post s3 w3))
 intro k t i a b vars vars' d hset
 rw [List.getElem?_map] at a
 obtain ⟨x, z1, rfl⟩ := Option.map_eq_some_iff.mp a
 have hk : k < is.length := Nat.lt_of_lt_of_eq (List.getElem?_eq_some_iff.mp b).1 List.length_reverse
 rw [List.getElem?_reverse (Nat.lt_of_lt_of_eq hk N.len.symm), N.len] at z1
 rw [List.getElem?_reverse hk] at b
 exact eH.bind (N.num _ x i z1 b) hset
theorem bh.HJ {es : List Expr} {n p is vs m q} {pos : Pos} {d : D} {names : List Str} (hh : A.handled = none) (N : rD nm names is)
  (hs : swapsWithSole [.Tuple es n p] (.Tuple vs m q) pos.line env = pure false) (hw : swappedStores [.Tuple es n p] (.Tuple vs m q) env = pure (some names)) (h : aA c nm X env fa A (eval (.Tuple vs m q) env) vars σ d σ1) (e : cz (.tup is) d vars = some vars') : bh c nm X env fa A (exec (.Assign [.Tuple es n p] (.Tuple vs m q) pos) env) vars σ .next vars' σ1 := by
 intro F ρ s Q Ex w post
 rw [exec_Assign_arm]
 refine wpAny_bind (wpAny_standAt ?_)
 rw [hs]
 refine wpAny_bind (wpAny_pure ?_)
 rw [if_neg (by decide)]
 refine wpAny_bind (h F ρ s _ Ex w fun F1 aB u s1 l1 p1 w1 r1 => ?_)
 rw [hw]
 refine wpAny_bind (wpAny_pure ?_)
 show wpAny _ _ (rule "assign.swapped-stores" >>= fun ξ => unpackItems u names.length none >>= fun items => assignInOrder (names.reverse.map fun n => bindName env n) items.reverse >>= fun ξ => (pure Flow.next : Sem Flow)) _ _ _
 refine wpAny_bind (wpAny_rule ?_)
 obtain ⟨ds, hd, CO, e3⟩ := Az e
 have fin := fun (vs : List Value) s2 w (rs : aC c.C F1 aB vs ds) => Qi (A := A) (Q := Q) (Ex := Ex) (s := s2) N w rs CO e3 fun s3 w3 => post F1 aB _ s3 l1 p1 w3 .next
 have sz : ∀ {vs : List Value}, aC c.C F1 aB vs ds → names.length = vs.toArray.size := fun h => (N.len.trans CO).trans h.length.symm
 rcases hd with rfl | rfl
 ·obtain ⟨a, bj, rfl, hl, cJ⟩ := w1.g.tuple (.old r1)
  rw [sz cJ]
  exact wpAny_bind (wpAny_unpackItems_tuple hh hl fun h' he => fin bj _ (w1.keep (Kp.mk' (tk := s1.toks) (fun b o e => he b o (Nat.ne_of_lt (Heap.lt_size e)) e) (Nat.le_refl _))) cJ)
 ·obtain ⟨a, bj, rfl, hl, cJ⟩ := w1.g.list (.old r1)
  rw [sz cJ]
  exact wpAny_bind (GX hh hl fun h' he => fin bj _ (w1.keep (Kp.mk' (tk := s1.toks) (fun b o e => he b o (Nat.ne_of_lt (Heap.lt_size e)) e) (Nat.le_refl _))) cJ)
theorem bh.asg {ts : List Expr} {Ts : List Ev.T} {v : Expr} {pos : Pos} {d : D} (hh : A.handled = none) (KR : env.scope.kind = .function) (ho : o7 v = true) (ht : jD nm Ts ts = true)
  (hs : swapsWithSole ts v pos.line env = pure false) (h : aA c nm X env fa A (eval v env) vars σ d σ1) (e : iJ Ts d vars = some vars') : bh c nm X env fa A (exec (.Assign ts v pos) env) vars σ .next vars' σ1 := by
 have plain : swappedStores ts v env = pure none → bh c nm X env fa A (exec (.Assign ts v pos) env) vars σ .next vars' σ1 := fun hw F ρ s Q Ex w post =>
  wpAny_Assign_stores (h F ρ s _ Ex w fun F1 aB u s1 l1 p1 w1 r1 => z7 hh ht e w1 r1 fun s2 w2 => post F1 aB _ s2 l1 p1 w2 .next) hs hw
 have hb : env.blockKind = .function := by unfold Env.blockKind; rw [KR]; rfl
 cases (Qj ht : rG nm env ts Ts v) with
 | no hw => exact plain hw
 | tup h3 =>
  rcases Qk ho hb with hw | ⟨names, hw, W⟩
  ·exact plain hw
  ·obtain ⟨dG, e1, e2⟩ := Option.bind_eq_some_iff.mp (e : (cz _ d vars).bind (iJ [] d) = some vars')
   cases (e2 : some dG = some vars')
   exact bh.HJ hh (.to h3 W env) hs hw h e1
end
end Ev
end
section
namespace Ev
open PySem PySem.W PySem.Calls PyProof.Rows PySem.SeqAt
structure uV (c : Cx) : Prop where
 set : findIn c.K (.ref c.C) "__setattr__" = some (some (.builtin "object.__setattr__"))
 over : plainOver c.K c.C = true
 taker : ∀ k, k < 5 → takerIn c.K c.C (attrName k) = some none
section
variable {c : Cx} {nm : Nm} {X : aT} {fa : List (Option Addr)} {σ σ' σ1 σ2 bf : ae} {env : Env} {vars vars' bG : af} {A : Around} {F F' : FM} {ρ ao : List (List Addr)} {s s' : Shared}
theorem PI {prog : Program} {w : World} {E : Value → Shared → Prop} {l : Addr} {vs : List Value} {n : Nat} {k : Int} {t : Tok} {v : Value} {Q : Unit → Shared → Prop} (ho : s.heap.get? l = some { cls := .type "list", data := .seq vs.toArray n })
  (h0 : 0 ≤ k) (sY : k < 2 ^ 63) (hn : k.toNat < vs.length)
  (hQ : ∀ h', h'.get? l = some { cls := .type "list", data := .seq (vs.set k.toNat v).toArray n } → Heap.SameBut l s.heap h' → Q () { s with heap := h' }) :
  wpAny (model prog w) A (setItem (.ref l) (.int k t) v) Q E s := by
 have hl : s.heap.IsList l vs.toArray := ⟨_, ho, rfl, _, rfl⟩
 have hd : ({ cls := .type "list", data := .seq vs.toArray n } : Obj).data = .seq vs.toArray n := rfl
 unfold setItem
 try with_reducible refine wpAny_holding ?_
 first | refine wpAny_bind (wpAny_pure ?_) | skip
 refine wpAny_bind (wpAny_sequenceKey hl.typeIs (by decide) ?_)
 refine wpAny_bind (wpAny_callSpecial?_slot (name := Str.ofString "__setitem__") hl.typeIs slot_list_setitem
  (wpAny_call_entry slot_list_setitem hl.typeIs entry_list_setitem ?_ (args_list_setitem _ _ _)))
 show wpAny _ _ (Builtin.List.listSubscript? (.int k t) >>= _) _ _ s
 refine wpAny_bind (wpAny_listSubscript_int (fitsIndex_of h0 sY) ?_)
 clear sY
 obtain ⟨j, rfl⟩ := Int.eq_ofNat_of_zero_le h0
 have hj : j < vs.toArray.size := by simpa using hn
 have nY : vs.toArray[j]? = some vs.toArray[j] := Array.getElem?_eq_getElem hj
 show wpAny _ _ ((seqItemAt l j >>= fun r => pure (r.map (j, ·))) >>= _) _ _ s
 refine wpAny_bind (wpAny_bind (wpAny_seqItemAt ho hd (wpAny_pure ?_)))
 rw [nY]
 show wpAny _ _ (setSeqItemAt l j v >>= _) _ _ s
 have CT : Obj.mapSeq (·.setIfInBounds j v) { cls := .type "list", data := .seq vs.toArray n } = { cls := .type "list", data := .seq (vs.set j v).toArray n } := by
  simp [Obj.mapSeq]
 have CI : (s.heap.update l (Obj.mapSeq (·.setIfInBounds j v))).get? l = some { cls := .type "list", data := .seq (vs.set j v).toArray n } := by
  rw [Heap.get?_update_self _ ho (by rw [CT]; rfl), CT]
 refine wpAny_bind (wpAny_setSeqItemAt ho hd ?_)
 first
  | exact wpAny_bind (wpAny_pure (wpAny_pure ⟨.none, rfl, wpAny_pure (hQ _ CI (Heap.SameBut.update ..))⟩))
  | exact wpAny_pure ⟨.none, rfl, wpAny_pure (hQ _ CI (Heap.SameBut.update ..))⟩
theorem GC {v t : Expr} {line : Nat} (ht : ∀ x p, t ≠ .Name x p) : swapsWith v (some t) line env = pure false := by
 unfold swapsWith
 cases v <;> try rfl
 all_goals
  dsimp only
  cases t <;> first | rfl | exact absurd rfl (ht _ _)
theorem Ql {v t : Expr} {line : Nat} (ht : ∀ x p, t ≠ .Name x p) : swapsWithSole [t] v line env = pure false := GC ht
theorem bh.dJ {o i v : Expr} {p pos : Pos} {d : D} {l : Nat} {k : Int} {xs : List D} (hv : aA c nm X env fa A (eval v env) vars σ d σ1) (ho : aA c nm X env fa A (eval o env) vars σ1 (.loc l) σ2) (hi : aA c nm X env fa A (eval i env) vars σ2 (.int k) bf)
  (hl : bf[l]? = some (some (.lst xs))) (hk : 0 ≤ k ∧ small k = true ∧ k.toNat < xs.length) :
  bh c nm X env fa A (exec (.Assign [.Subscript o i p] v pos) env) vars σ .next vars (bf.set l (some (.lst (xs.set k.toNat d)))) := by
 intro F ρ s Q Ex w post
 have jP : k.natAbs < 2 ^ 62 := of_decide_eq_true hk.2.1
 refine wpAny_Assign_Subscript (hv F ρ s _ Ex w fun F1 aB v1 s1 l1 p1 w1 r1 => ho F1 aB s1 _ Ex w1 fun F2 aQ v2 s2 l2 p2 w2 r2 => hi F2 aQ s2 _ Ex w2 fun F3 eF v3 s3 l3 p3 w3 r3 => ?_) (GC (fun ξ ξ h => by cases h))
 cases r3 with
 | int _ t =>
 obtain ⟨a, vs, n, rfl, q1, q2, q3⟩ := w3.g.live (r2.mono l3 p3) hl
 refine PI q2 hk.1 (by lia) (by rw [q3.length]; exact hk.2.2) fun h' hg hs => ?_
 have rr := r1.mono (l2.trans l3) (p2.trans p3)
 exact post F3 eF _ _ ((l1.trans l2).trans l3) ((p1.trans p2).trans p3) (w3.turn (tk := s3.toks) hl q1 (fun b o' hb e => (hs.2 b (by simpa using hb)).trans e) (.lst hg (q3.set _ rr)) (fun b hb => by simp at hb; subst hb; exact ⟨_, hg⟩) (Nat.le_refl _)) .next
theorem Ra.none : ∀ {es : List DictEntry} {as : List (Nat × D)} {k : Nat}, k < 5 → Ra c.C F ρ es as → as.lookup k = none → getL (attrName k) es = some none ∧ (∀ e ∈ es, e.key.isStr (attrName k) = false) := @fun ξ aa => @(match aa with
 | [] => @fun k ξ h ξ => by cases h; exact ⟨rfl, fun e he => by simp at he⟩
 | (j, x) :: as => @fun k iO h e => by
  cases h with
  | @cons hs t v _ _ es _ hk hv hr =>
   have hb : (Value.str (attrName j) t).isStr (attrName k) = (j == k) := AG j hk k iO
   have kA : (j == k) = false := by
    rw [beq_eq_false_iff_ne]; intro q; subst q
    rw [List.lookup_cons, beq_self_eq_true] at e; cases e
   have KS : (k == j) = false := by rw [beq_eq_false_iff_ne] at kA ⊢; exact fun q => kA q.symm
   rw [List.lookup_cons, KS] at e
   obtain ⟨h1, h2⟩ := Ra.none iO hr e
   refine ⟨?_, fun e he => ?_⟩
   ·unfold getL at h1 ⊢
    rw [List.find?_cons, hb, kA]
    dsimp only
    cases hf : es.find? (·.key.isStr (attrName k)) with
    | none =>
     rw [hf] at h1
     dsimp only at h1
     have : (List.any (⟨hs, .str (attrName j) t, v⟩ :: es) fun x => x.refKey) = es.any (·.refKey) := rfl
     rw [this]; exact h1
    | some en => rw [hf] at h1; cases h1
   ·rcases List.mem_cons.mp he with rfl | he
    ·exact hb.trans kA
    ·exact h2 e he)
theorem putL_new {name : Str} {lZ : Int} {key v : Value} : ∀ {es : List DictEntry}, (∀ e ∈ es, e.key.isStr name = false) → putL name lZ key v es = es ++ [⟨lZ, key, v⟩] := @fun aa => @(match aa with
 | [] => @fun ξ => rfl
 | e :: r => @fun h => by
  unfold putL
  rw [h e (by simp)]
  simp only [Bool.false_eq_true, if_false, List.cons_append]
  rw [putL_new fun e he => h e (by simp [he])])
theorem Ra.snoc {lZ : Int} {t : Tok} {v : Value} {k : Nat} {d : D} (hk : k < 5) (hv : Rv c.C F ρ v d) : ∀ {es : List DictEntry} {as : List (Nat × D)}, Ra c.C F ρ es as → Ra c.C F ρ (es ++ [⟨lZ, .str (attrName k) t, v⟩]) (as ++ [(k, d)]) := @fun ξ aa => @(match aa with
 | [] => @fun h => by cases h; exact .cons hk hv .nil
 | (υ1, υ2) :: υ3 => @fun h => by cases h with | cons gr hv' hr => exact .cons gr hv' (Ra.snoc hk hv hr))
theorem Ra.length {es : List DictEntry} : ∀ {as : List (Nat × D)}, Ra c.C F ρ es as → es.length = as.length := by
 induction es with
 | nil => intro as h; cases h; rfl
 | cons e es ih => intro as h; cases h with | cons _ _ hr => simp [ih hr]
theorem PG {E : Value → Shared → Prop} {x dx : Addr} {es : List DictEntry} {n k : Nat} {as : List (Nat × D)} {v : Value} {Q : Unit → Shared → Prop} (XK : c.K.In s.heap) (C : qZ c) (S : uV c) (hx : s.heap.get? x = some (instObj c.C dx)) (iN : s.heap.get? dx = some (dictOf es n))
  (hr : Ra c.C F ρ es as) (hk : k < 5) (wZ : as.lookup k = none) (hlen : as.length < 20)
  (h : ∀ lZ tk h', h'.get? dx = some (dictOf (es ++ [⟨lZ, .str (attrName k) tk, v⟩]) (n + 1)) → Heap.SameBut dx s.heap h' → Q () { s with heap := h', toks := s.toks + 2 }) : wpAny (model c.prog c.w) A (setAttr (.ref x) (attrName k) v) Q E s := by
 have I : InstAt s.heap x (instObj c.C dx) c.C (some (dictOf es n)) := ⟨hx, rfl, rfl, iN⟩
 obtain ⟨q1, q2⟩ := hr.none hk wZ
 refine set_plain XK I S.set (osa_open (s := { s with toks := s.toks + 1 }) XK I S.over (S.taker k hk) fun b => ?_)
 obtain ⟨cd, hc, kq⟩ := any_some C.hasDict
 dsimp only
 have CZ : Obj.putName (attrName k) (PyData.keyHash c.w.params (attrName k)) (.str (attrName k) (s.toks + 1)) v (dictOf es n) = dictOf (es ++ [⟨PyData.keyHash c.w.params (attrName k), .str (attrName k) (s.toks + 1), v⟩]) (n + 1) := by
  rw [putName_dict, putL_new q2]
  have : putN (attrName k) es n = n + 1 := by
   unfold putN
   have : es.any (·.key.isStr (attrName k)) = false := by rw [List.any_eq_false]; intro e he; simp [q2 e he]
   rw [this]; rfl
  rw [this]
 have p8 : (s.heap.update dx (Obj.putName (attrName k) (PyData.keyHash c.w.params (attrName k)) (.str (attrName k) (s.toks + 1)) v)).get? dx = some (dictOf (es ++ [⟨PyData.keyHash c.w.params (attrName k), .str (attrName k) (s.toks + 1), v⟩]) (n + 1)) := by
  rw [Heap.get?_update_self _ iN (by rw [CZ]; rfl), CZ]
 refine wpAny_bind (wpAny_pure (wpAny_bind (wpAny_bind (wpAny_loadPart hx (wpAny_bind (Looks.here (s := { s with toks := s.toks + 1 }) (looks_clsIn XK hc) ?_))))))
 rw [kq]
 refine wpAny_pure (a := some dx) (wpAny_bind (wpAny_pure (wpAny_bind ?_)))
 unfold nsSet
 refine wpAny_bind (wpAny_bind (wpAny_askSetting (wpAny_pure (wpAny_bind (wpAny_mkText (wpAny_bind (wpAny_loadPart iN ?_)))))))
 dsimp only
 have K2 : (!es.toArray.any (·.key.isStr (attrName k)) && es.toArray.any (·.refKey)) = false := by
  rw [← Array.any_toList, ← Array.any_toList]
  have : es.any (·.refKey) = false := hr.N1
  rw [show es.toArray.toList = es from rfl, this, Bool.and_false]
 rw [aRefKeyMayBeTheName_at, K2]
 refine wpAny_updatePart iN ?_
 refine wpAny_bind (wpAny_lookBehind p8 (pastItsLine_dict (by rw [List.size_toArray, sizeLine_eq]; simp [hr.length]; lia)) ?_)
 exact wpAny_pure (h _ _ _ p8 (Heap.SameBut.update ..))
theorem bh.setAttr {o v : Expr} {y : Str} {p pos : Pos} {d : D} {l k : Nat} {as : List (Nat × D)} (Z : cG c) (C : qZ c) (S : uV c) (hv : aA c nm X env fa A (eval v env) vars σ d σ1) (ho : aA c nm X env fa A (eval o env) vars σ1 (.loc l) σ2) (hy : iK y = some k)
  (hl : σ2[l]? = some (some (.inst as))) (hk : as.lookup k = none ∧ as.length < 20) :
  bh c nm X env fa A (exec (.Assign [.Attribute o y p] v pos) env) vars σ .next vars (σ2.set l (some (.inst (as ++ [(k, d)])))) := by
 intro F ρ s Q Ex w post
 obtain ⟨rfl, iO⟩ := AE hy
 refine wpAny_Assign_stores (hv F ρ s _ Ex w fun F1 aB v1 s1 l1 p1 w1 r1 => ?_) (Ql (t := .Attribute o (attrName k) p) (fun ξ ξ h => by cases h)) rfl
 show wpAny _ _ (holding [v1] (eval o env) >>= fun ov => standAt p.atName >>= fun ξ => holding [v1, ov] (PySem.setAttr ov (attrName k) v1) >>= fun ξ => release [v1, ov] []) _ _ _
 refine wpAny_bind (wpAny_holding (ho F1 aB s1 _ Ex w1 fun F2 aQ v2 s2 l2 p2 w2 r2 => wpAny_bind (wpAny_standAt (wpAny_bind (wpAny_holding ?_)))))
 cases r2 with
 | @loc a _ jg =>
 obtain ⟨r, q1, q2⟩ := w2.g.objs l _ hl
 obtain ⟨r', jg⟩ := jg
 rw [q1] at jg; cases jg
 cases q2 with
 | @inst _ dx es n _ hx iN hr =>
 have bH : a ≠ dx := fun q => by subst q; rw [hx] at iN; cases iN
 refine PG (w2.g.K Z) C S hx iN hr iO hk.1 hk.2 fun lZ tk h' hg hs => wpAny_release ?_
 have rr := r1.mono l2 p2
 have nY : h'.get? a = some (instObj c.C dx) := (hs.2 a bH).trans hx
 exact post F2 aQ _ _ (l1.trans l2) (p1.trans p2) (w2.turn (tk := s2.toks + 2) hl q1 (fun b o' hb e => (hs.2 b (by simp at hb; exact hb.2)).trans e) (.inst nY hg (hr.snoc iO rr))
  (fun b hb => by simp at hb; rcases hb with rfl | rfl; exact ⟨_, nY⟩; exact ⟨_, hg⟩) (by lia)) .next
noncomputable def oV (c : Cx) (nm : Nm) (X : aT) (env : Env) (fa : List (Option Addr)) (A : Around) (value : Expr) (vars : af) (σ : ae) (d : D) (σ' : ae) : Prop :=
 ∀ F ρ s (u : Value → Sem Unit) vars' Q Ex, W c nm X env fa F ρ vars σ s → (∀ X', eH c nm X' env fa A u d vars vars') →
  (∀ F' ao s', aG F F' → ρ <+: ao → W c nm X env fa F' ao vars' σ' s' → Q () s') → wpAny (model c.prog c.w) A (evalThenUse value env u) Q Ex s
theorem bh.HK {t v : Expr} {T : Ev.T} {pos : Pos} {d : D} (hh : A.handled = none) (ht : b9 nm T t = true)
  (hs : swapsWithSole [t] v pos.line env = pure true) (h : oV c nm X env fa A v vars σ d σ1) (e : iJ [T] d vars = some vars') : bh c nm X env fa A (exec (.Assign [t] v pos) env) vars σ .next vars' σ1 := by
 intro F ρ s Q Ex w post
 rw [exec_Assign_arm]
 refine wpAny_bind (wpAny_standAt ?_)
 rw [hs]
 refine wpAny_bind (wpAny_pure ?_)
 rw [if_pos rfl]
 refine wpAny_bind (h F ρ s _ vars' _ Ex w (fun X' F1 aB σ' s1 u Q' Q9 w1 r1 k => ?_) fun F1 aB s1 l1 p1 w1 => wpAny_pure (post F1 aB _ s1 l1 p1 w1 .next))
 exact z7 hh (ts := [t]) (Ts := [T]) (by show (b9 nm T t && true) = true; rw [ht]; rfl) e w1 r1 k
end
end Ev
end
section
namespace Ev
open PySem PySem.W PySem.Calls PyProof.Rows PySem.SeqAt
structure Iter (c : Cx) (A : Around) (tg : Expr) (I : Addr) (fp own : List Addr) (F0 : FM) (bD : List (List Addr)) (ds : List D) (St : Nat → Heap → Prop) : Prop where
 frame : ∀ i h h', St i h → (∀ b ∈ fp, ∀ o, h.get? b = some o → h'.get? b = some o) → St i h'
 live : ∀ i h, St i h → ∀ b ∈ own, ∃ o, h.get? b = some o ∧ ∀ w, o.data ≠ .cell w
 frozen : ∀ b ∈ fp, b ∈ own ∨ ∃ o, F0.o b = some o
 turn : ∀ (i : Nat) (d : D) (s : Shared) (Q : Value → Shared → Prop) (E : Value → Shared → Prop), ds[i]? = some d → St i s.heap →
  (∀ v s', (∀ b o, b ∉ own → s.heap.get? b = some o → s'.heap.get? b = some o) → s'.gens = s.gens → s'.os = s.os → s.toks ≤ s'.toks → St (i + 1) s'.heap → Res c F0 bD s s' v d → Q v s') →
  wpAny (model c.prog c.w) A (pyNext (.ref I)) (fun r s1 => ∃ v, r = some v ∧ wpAny (model c.prog c.w) A (letOwnedTupleGo tg (.ref I) v) (fun ξ s2 => Q v s2) E s1) E s
 done : ∀ (s : Shared) (Q : Option Value → Shared → Prop) (E : Value → Shared → Prop), St ds.length s.heap →
  (∀ s', (∀ b o, b ∉ own → s.heap.get? b = some o → s'.heap.get? b = some o) → s'.gens = s.gens → s'.os = s.os → s.toks ≤ s'.toks → Q none s') → wpAny (model c.prog c.w) A (pyNext (.ref I)) Q E s
 self : ∀ i (s : Shared) (Q : Value → Shared → Prop) (E : Value → Shared → Prop), St i s.heap → Q (.ref I) s → wpAny (model c.prog c.w) A (pyIter (.ref I)) Q E s
section
variable {c : Cx} {nm : Nm} {X : aT} {fa : List (Option Addr)} {σ σ' σ1 σ2 bf : ae} {env : Env} {vars vars' bG : af} {A : Around} {F F' F0 : FM} {ρ ao bD : List (List Addr)} {s s' : Shared} {fl : aI}
theorem Res.mono {v : Value} {d : D} (r : Res c F ρ s s' v d) (hF : aG F F') (e9 : ρ <+: ao) : Res c F' ao s s' v d := by
 cases r with
 | old r => exact .old (r.mono hF e9)
 | flt h0 h1 h2 => exact .flt h0 h1 h2
 | tup h0 ho hc hd hs => exact .tup h0 ho hc hd (hs.mono hF e9)
 | lst h0 ho hc hd hs => exact .lst h0 ho hc hd (hs.mono hF e9)
theorem W.jk {own : List Addr} (w : W c nm X env fa F ρ vars σ s) (hg : b7 F X fa ρ σ own) (hk : ∀ b o, b ∉ own → s.heap.get? b = some o → s'.heap.get? b = some o) (h1 : s'.gens = s.gens) (h2 : s'.os = s.os) (h3 : s.toks ≤ s'.toks) : W c nm X env fa F ρ vars σ s' := by
 refine ⟨w.g.to (fun b o hb e => hk b o (fun fK => ?_) e) h1 h2 h3, w.f.to aG.rfl (List.prefix_refl _) fun i a o hi e => hk a o (fun fK => (hg a fK).2.2 (.fr i) trivial (bV.mpr hi)) e⟩
 obtain ⟨q1, q2, q3⟩ := hg b fK
 rcases hb with hb | hb | ⟨t, hl, hm⟩
 ·rw [q1] at hb; cases hb
 ·rw [q2] at hb; cases hb
 ·exact q3 t hl hm
theorem W.FH {own : List Addr} (w : W c nm X env fa F ρ vars σ s) (w' : W c nm X env fa F ρ vars σ s') (hg : b7 F X fa ρ σ own) (hl : ∀ b ∈ own, ∃ o, s.heap.get? b = some o) {v : Value} {d : D} (r : Res c F ρ s s' v d) :
  ∃ F', aG F F' ∧ W c nm X env fa F' ρ vars σ s' ∧ b7 F' X fa ρ σ own ∧ Rv c.C F' ρ v d := by
 have guard : ∀ {a : Addr} {o : Obj}, s.heap.get? a = none → b7 (jt F a o) X fa ρ σ own := by
  intro a o h0 b hb
  obtain ⟨q1, q2, q3⟩ := hg b hb
  refine ⟨?_, q2, q3⟩
  show upd F.o a o b = none
  rw [lj]; exact q1
  intro e; subst e
  obtain ⟨o', e⟩ := hl b hb
  rw [h0] at e; cases e
 cases r with
 | old r => exact ⟨F, aG.rfl, w', hg, r⟩
 | @flt x t hp h1 h2 =>
  have h0 : F.t t = none := by
   cases e : F.t t with
   | none => rfl
   | some y => exact absurd (Nat.lt_of_le_of_lt h1 (w.g.ft t y e).2) (Nat.lt_irrefl _)
  have le : aG F { F with t := fun u => if u = t then some x else F.t u } := ⟨fun ξ ξ e => e, fun u y e => by
   dsimp only; split
   ·rename_i q; rw [q, h0] at e; cases e
   ·exact e⟩
  refine ⟨_, le, w'.iu { f := w'.g.f, x := w'.g.x, fx := w'.g.fx, base := w'.g.base, apart := w'.g.apart, own := w'.g.own, objs := fun l m e => ?_, len := w'.g.len, gens := w'.g.gens, os := w'.g.os, bI := w'.g.bI, ft := fun u y e => ?_ } le (List.prefix_refl _), hg, .flt (by simp)⟩
  ·obtain ⟨r, q1, q2⟩ := w'.g.objs l m e
   exact ⟨r, q1, q2.mono le (List.prefix_refl _) fun ξ ξ ξ h => h⟩
  ·dsimp only at e; split at e
   ·rename_i q; subst q
    exact ⟨Nat.lt_of_lt_of_le hp h1, h2⟩
   ·exact w'.g.ft u y e
 | @tup a o vs n xs h0 ho hc hd hs =>
  obtain ⟨h1, h2, h3⟩ := w.g.fresh h0
  have le := g9 (o := o) h1
  exact ⟨_, le, w'.iu (w'.g.gn ho h1 h2 h3) le (List.prefix_refl _), guard h0, .tup gH hc hd (hs.mono le (List.prefix_refl _))⟩
 | @lst a o vs n xs h0 ho hc hd hs =>
  obtain ⟨h1, h2, h3⟩ := w.g.fresh h0
  have le := g9 (o := o) h1
  exact ⟨_, le, w'.iu (w'.g.gn ho h1 h2 h3) le (List.prefix_refl _), guard h0, .lst gH hc hd (hs.mono le (List.prefix_refl _))⟩
theorem Iter.step {tg : Expr} {I : Addr} {fp own : List Addr} {ds : List D} {St : Nat → Heap → Prop} (it : Iter c A tg I fp own F0 bD ds St) (w : W c nm X env fa F ρ vars σ s) (hg : b7 F X fa ρ σ own) (le : aG F0 F) (hp : bD <+: ρ)
  {i : Nat} {d : D} (hd : ds[i]? = some d) (st : St i s.heap) {Q : Value → Shared → Prop} {E : Value → Shared → Prop}
  (post : ∀ v s' F', aG F F' → W c nm X env fa F' ρ vars σ s' → b7 F' X fa ρ σ own → St (i + 1) s'.heap → Rv c.C F' ρ v d → Q v s') :
  wpAny (model c.prog c.w) A (pyNext (.ref I)) (fun r s1 => ∃ v, r = some v ∧ wpAny (model c.prog c.w) A (letOwnedTupleGo tg (.ref I) v) (fun ξ s2 => Q v s2) E s1) E s := by
 refine it.turn i d s Q E hd st fun v s' hk h1 h2 h3 cY r => ?_
 have w' := w.jk hg hk h1 h2 h3
 obtain ⟨F', l, w2, g2, r2⟩ := w.FH w' hg (fun b hb => let ⟨o, e, _⟩ := it.live i _ st b hb; ⟨o, e⟩) (r.mono le hp)
 exact post v s' F' l w2 g2 cY r2
theorem Iter.qN {tg : Expr} {I : Addr} {fp own : List Addr} {ds : List D} {St : Nat → Heap → Prop} (it : Iter c A tg I fp own F0 bD ds St) {i : Nat} {h h' : Heap} (st : St i h) (hf : ∀ a o, F0.o a = some o → h.get? a = some o) (Kz : ∀ a o, F0.o a = some o → h'.get? a = some o)
  (hk : ∀ b ∈ own, ∀ o, h.get? b = some o → h'.get? b = some o) : St i h' := by
 refine it.frame i h h' st fun b hb o e => ?_
 rcases it.frozen b hb with ho | ⟨o', ho⟩
 ·exact hk b ho o e
 ·have := hf b o' ho
  rw [e] at this; cases this
  exact Kz b o ho
noncomputable def eI (c : Cx) (nm : Nm) (X : aT) (env : Env) (fa : List (Option Addr)) (A : Around) (tg it : Expr) (vars : af) (σ : ae) (ds : List D) (σ' : ae) : Prop :=
 ∀ F ρ s (Q : Value → Shared → Prop) Ex, W c nm X env fa F ρ vars σ s →
  (∀ F' ao I fp own St s', aG F F' → ρ <+: ao → W c nm X env fa F' ao vars σ' s' → Iter c A tg I fp own F' ao ds St → St 0 s'.heap → b7 F' X fa ao σ' own → Q (.ref I) s') →
  wpAny (model c.prog c.w) A (eval it env) (fun x s1 => wpAny (model c.prog c.w) A (pyIter x) Q Ex s1) Ex s
inductive Af (c : Cx) (nm : Nm) (X : aT) (env : Env) (fa : List (Option Addr)) (own : List Addr) (St : Nat → Heap → Prop) (ds : List D) (Q : Flow → Shared → Prop) (f : D → af → ae → Option (aI × af × ae)) (F1 : FM) (aB : List (List Addr)) (n : Nat) (s : Shared) : Prop
 | mk (i : Nat) (F2 : FM) (aQ : List (List Addr)) (dG : af) (σ2 : ae) (hn : n = ds.length + 1 - i) (l2 : aG F1 F2) (p2 : aB <+: aQ) (le : i ≤ ds.length) (w : W c nm X env fa F2 aQ dG σ2 s) (g : b7 F2 X fa aQ σ2 own) (st : St i s.heap)
  (r : aI × af × ae) (e : cC f (ds.drop i) dG σ2 = some r) (post : lE c nm X env fa F1 aB Q (cC f (ds.drop i) dG σ2))
noncomputable def JL (P : Nat → Shared → Prop) (n : Nat) (Q : Flow → Shared → Prop) (f : Flow) (s : Shared) : Prop := match f with
 | .next | .cont => ∃ m, m < n ∧ P m s
 | .brk => Q .next s
 | .ret v => Q (.ret v) s
theorem sub_lt {n i : Nat} (h : i < n) : n + 1 - (i + 1) < n + 1 - i := Nat.sub_lt_sub_left (Nat.lt_succ_of_lt h) (Nat.lt_succ_self i)
noncomputable def pT (T : Ev.T) (g : af → ae → Option (aI × af × ae)) (d : D) (vars : af) (σ : ae) : Option (aI × af × ae) := (cz T d vars).bind fun vars => g vars σ
theorem bh.forIn {t it : Expr} {T : Ev.T} {b : List Stmt} {pos : Pos} {ds : List D} {g : af → ae → Option (aI × af × ae)} (hh : A.handled = none) (ht : b9 nm T t = true) (hs : ∀ x, foldedSetIterable it env x = pure x)
  (hi : eI c nm X env fa A t it vars σ ds σ1)
  (hb : ∀ X' vars σ fl vars' σ', g vars σ = some (fl, vars', σ') → bh c nm X' env fa A (execs b env) vars σ fl vars' σ')
  (e : cC (fun d vars σ => (cz T d vars).bind fun vars => g vars σ) ds vars σ1 = some (fl, vars', σ')) : bh c nm X env fa A (exec (.For t it b [] pos) env) vars σ fl vars' σ' := by
 intro F ρ s Q Ex w post
 refine wpAny_For (hi F ρ s _ Ex w fun F1 aB I fp own St s1 l1 p1 w1 it st hg => ?_) hs
 have post : lE c nm X env fa F1 aB Q (cC (pT T g) ds vars σ1) := fun B0 v2 s2 q => by
  cases e.symm.trans q; exact fun F' ao f s' l p => post F' ao f s' (l1.trans l) (p1.trans p)
 refine codeAny_forLoop_any (Af c nm X env fa own St ds Q (pT T g) F1 aB) ?_ (ds.length + 1) ⟨0, F1, aB, vars, σ1, rfl, aG.rfl, List.prefix_refl _, Nat.zero_le _, w1, hg, st, _, e, post⟩
 clear post e w hi l1 p1 w1 st hg
 rintro n s2 ⟨i, F2, aQ, dG, σ2, rfl, l2, p2, KO, w2, CJ, gX, r, e2, post⟩
 rcases Nat.lt_or_ge i ds.length with aZ | jf
 ·rw [List.drop_eq_getElem_cons aZ] at e2 post
  refine aO (show (((cz T ds[i] dG).bind fun vars => g vars σ2).bind fun r => ia r (cC (pT T g) (ds.drop (i + 1)))) = _ from e2) fun q hr e3 => aO hr fun mX ha KL => ?_
  replace post : lE c nm X env fa F1 aB Q (ia q (cC (pT T g) (ds.drop (i + 1)))) := e3.symm ▸ e2 ▸ post
  refine wpAny_mono (it.step w2 CJ l2 p2 (List.getElem?_eq_getElem aZ) gX (Q := fun v s3 => wpAny (model c.prog c.w) A (assign t env v) (fun ξ eU => wpAny (model c.prog c.w) A (execs b env) (JL (Af c nm X env fa own St ds Q (pT T g) F1 aB) (ds.length + 1 - i) Q) (notedBy (model c.prog c.w) A env fun e s' => cameBackBy (model c.prog c.w) A env Ex e s') eU) (notedBy (model c.prog c.w) A env fun e s' => cameBackBy (model c.prog c.w) A env Ex e s') s3) ?_) (fun r s3 h3 => h3.elim fun v h => h.1 ▸ h.2) fun ξ ξ h => h
  intro v s3 F3 l3 w3 lX gE r3
  refine eH.target (X := hid (· ∈ own) X s3.heap) hh ht ha F3 aQ σ2 s3 v _ _ (w3.nQ lX) r3 fun s4 w4 => ?_
  obtain ⟨Rg, G0, bX⟩ := q
  refine hb _ _ _ _ _ _ KL F3 aQ s4 _ _ w4 fun F5 gI fx s5 l5 p5 w5 r5 => ?_
  obtain ⟨w6, k6, sZ⟩ := w5.mT (fun b hb => (lX b hb).2.1) fun b hb => it.live _ _ gE b hb
  have LL := l2.trans (l3.trans l5)
  have PP := p2.trans p5
  have Gu : St (i + 1) s5.heap := it.qN gE (fun a o h => w3.g.f a o ((l2.trans l3).o a o h)) (fun a o h => w6.g.f a o (LL.o a o h)) k6
  cases r5 with
  | next => exact ⟨_, sub_lt aZ, i + 1, F5, gI, G0, bX, rfl, LL, PP, aZ, w6, sZ, Gu, r, e3, post⟩
  | cont => exact ⟨_, sub_lt aZ, i + 1, F5, gI, G0, bX, rfl, LL, PP, aZ, w6, sZ, Gu, r, e3, post⟩
  | brk => exact post _ _ _ rfl F5 gI .next s5 LL PP w6 .next
  | ret r5 => exact post _ _ _ rfl F5 gI _ s5 LL PP w6 (.ret r5)
 ·obtain rfl := Nat.le_antisymm KO jf
  rw [List.drop_length] at post
  refine it.done s2 _ _ gX fun s3 hk h1 h2 h3 => wpAny_execs_nil ?_
  exact post _ _ _ rfl F2 aQ .next s3 l2 p2 (w2.jk CJ hk h1 h2 h3) .next
end
end Ev
end
section
namespace Ev
open PySem PySem.W PySem.Calls PyProof.Rows PySem.SeqAt
noncomputable def lG : Bi → Value := @fun aa => match aa with
 | .len => .builtin "len" | .max => .builtin "max" | .min => .builtin "min"| .round => .builtin "round" | .sum => .builtin "sum" | .sorted => .builtin "sorted" | .list => .type "list" | .tuple => .type "tuple"
 | .range => .type "range" | .enumerate => .type "enumerate" | .zip => .type "zip"
theorem j9 : ∀ b, bootBuiltins (cU b) = some (lG b) ∧ cU b ≠ "__name__" := by
 intro b
 cases b <;> exact ⟨by kernel_rfl, by decide +kernel⟩
noncomputable def lB (c : Cx) : Prop := ∀ b, nsIn c.K mainGlobals (cU b) = some none
section
variable {c : Cx} {nm : Nm} {X : aT} {fa : List (Option Addr)} {σ σ' σ1 σ2 bf : ae} {env : Env} {vars vars' bG : af} {A : Around} {F F' F0 : FM} {ρ ao bD : List (List Addr)} {s s' : Shared} {fl : aI}
theorem J2 {M : Model} {E : Value → Shared → Prop} {tg : Expr} {I : Addr} {v : Value} {o : Obj} {T : String} {Q : Unit → Shared → Prop} (ho : s.heap.get? I = some o) (hc : o.cls = .type T)
  (hT : (["enumerate", "zip", "dict_itemiterator", "dict_reverseitemiterator", "odict_iterator", "itertools.zip_longest", "itertools.pairwise"].contains T) = false) (h : Q () s) : wpAny M A (letOwnedTupleGo tg (.ref I) v) Q E s := by
 unfold letOwnedTupleGo
 have tail : wpAny M A (do
   let (.ref r, .ref a) := (Value.ref I, v) | return
   let o ← load r
   match o.cls, o.data with
   | .type n, .fields vs =>
    if ["enumerate", "zip", "dict_itemiterator", "dict_reverseitemiterator", "odict_iterator", "itertools.zip_longest", "itertools.pairwise"].contains n && vs[0]? == some (rawInt a) then
     rule "for.unpacks-the-owned-tuple"
     updateField r 0 .none
   | _, _ => pure ()) Q E s := by
  cases v <;> try exact wpAny_pure h
  refine wpAny_bind (wpAny_load ho ?_)
  rw [hc]
  cases o.data <;> try exact wpAny_pure h
  dsimp only
  rw [hT]
  exact wpAny_pure h
 split
 ·exact tail
 ·exact tail
 ·exact wpAny_pure h
theorem Iter.ofWalks {tg : Expr} {I : Addr} {fp own : List Addr} {n : Nat} {ds : List D} {P : Nat → Value → Prop} {St : Nat → Heap → Prop} (Wk : Walks c.prog c.w A I fp own n P St) (hn : ds.length = n)
  (live : ∀ i h, St i h → ∀ b ∈ own, ∃ o, h.get? b = some o ∧ ∀ w, o.data ≠ .cell w) (frozen : ∀ b ∈ fp, b ∈ own ∨ ∃ o, F0.o b = some o) (val : ∀ i v d, P i v → ds[i]? = some d → Rv c.C F0 bD v d)
  (plain : ∀ i h, St i h → ∃ o T, h.get? I = some o ∧ o.cls = .type T ∧ (["enumerate", "zip", "dict_itemiterator", "dict_reverseitemiterator", "odict_iterator", "itertools.zip_longest", "itertools.pairwise"].contains T) = false) :
  Iter c A tg I fp own F0 bD ds St where
 frame := Wk.frame
 live := live
 frozen := frozen
 turn := fun i d s Q E hd st hQ => by
  have hi : i < n := by rw [← hn]; exact (List.getElem?_eq_some_iff.mp hd).1
  refine wpAny_with_toks (n := s.toks) (Nat.le_refl _) (Wk.item i s _ _ hi st fun v h' tk hP cY hk ht => ⟨v, rfl, ?_⟩)
  obtain ⟨o, T, q1, q2, q3⟩ := plain _ _ cY
  have iR : s.toks ≤ tk := ht
  exact J2 (s := { s with heap := h', toks := tk }) q1 q2 q3 (hQ v _ hk rfl rfl iR cY (.old (val i v d hP hd)))
 done := fun s Q E st hQ => by
  refine wpAny_with_toks (n := s.toks) (Nat.le_refl _) (Wk.done s _ _ (hn ▸ st) fun h' tk hk ht => ?_)
  have iR : s.toks ≤ tk := ht
  exact hQ _ hk rfl rfl iR
 self := Wk.self
theorem Gd {ds : List D} {vs : List Value} (hs : aC c.C F0 bD vs ds) (i : Nat) (v : Value) (d : D) (hP : (List.toArray vs)[i]? = some v) (hd : ds[i]? = some d) : Rv c.C F0 bD v d := by
 obtain ⟨u, q1, q2⟩ := hs.get hd
 rw [List.getElem?_toArray, q1] at hP
 cases hP; exact q2
theorem Gc {I a : Addr} {o : Obj} (ho : F0.o a = some o) : ∀ b ∈ [I, a], b ∈ [I] ∨ ∃ o, F0.o b = some o := fun b hb => by
 rcases List.mem_cons.mp hb with rfl | hb
 ·exact .inl (List.mem_singleton.mpr rfl)
 ·rw [List.mem_singleton.mp hb]; exact .inr ⟨_, ho⟩
theorem DY {I : Addr} {h : Heap} {T : String} {fs : Array Value} {o : Obj} (e1 : h.get? I = some o) (e2 : o.data = .fields fs) : ∀ b ∈ [I], ∃ o, h.get? b = some o ∧ ∀ w, o.data ≠ .cell w := fun b hb => by
 rw [List.mem_singleton.mp hb]; exact ⟨o, e1, fun w q => by rw [e2] at q; (first | exact au q | exact ai q | exact nomatch q)⟩
theorem Iter.list {tg : Expr} {I a : Addr} {o : Obj} {vs : List Value} {ds : List D} (hh : A.handled = none) (bH : a ≠ I) (ho : F0.o a = some o) (hs : aC c.C F0 bD vs ds) :
  Iter c A tg I [I, a] [I] F0 bD ds (fun i h => h.IsListIter I a i ∧ h.IsList a vs.toArray) :=
 Iter.ofWalks (Walks.list hh I a bH vs.toArray) hs.length.symm (fun i h st => let ⟨⟨o, e1, _, e2⟩, _⟩ := st; DY (T := "") e1 e2) (Gc ho) (Gd hs) (fun i h st => let ⟨⟨o, e1, e2, _⟩, _⟩ := st; ⟨o, _, e1, e2, rfl⟩)
theorem Iter.tuple {tg : Expr} {I a : Addr} {o : Obj} {vs : List Value} {ds : List D} (hh : A.handled = none) (bH : a ≠ I) (ho : F0.o a = some o) (hs : aC c.C F0 bD vs ds) :
  Iter c A tg I [I, a] [I] F0 bD ds (fun i h => h.IsTupleIter I a i ∧ h.IsTuple a vs.toArray) :=
 Iter.ofWalks (Walks.tuple hh I a bH vs.toArray) hs.length.symm (fun i h st => let ⟨⟨o, e1, _, e2⟩, _⟩ := st; DY (T := "") e1 e2) (Gc ho) (Gd hs) (fun i h st => let ⟨⟨o, e1, e2, _⟩, _⟩ := st; ⟨o, _, e1, e2, rfl⟩)
theorem DQ : ∀ {a : List Nat} {i : Nat} {d : D}, (bL a)[i]? = some d → ∃ ch, a[i]? = some ch ∧ d = .str [ch] := @fun aa ak => @(match aa, ak with
 | [], i => @fun d h => by simp [bL] at h
 | ch :: r, 0 => @fun d h => by simp [bL] at h; exact ⟨ch, rfl, h.symm⟩
 | ch :: r, i + 1 => @fun d h => by simpa using DQ (a := r) (i := i) (by simpa [bL] using h))
theorem DR : ∀ {a : List Nat}, (bL a).length = a.length := @fun aa => match aa with
 | [] => rfl
 | υ1 :: r => by simp [bL, DR (a := r)]
theorem Iter.str {tg : Expr} {I : Addr} {a : List Nat} {t : Tok} (hh : A.handled = none) :
  Iter c A tg I [I] [I] F0 bD (bL a) (fun i h => h.IsStrIter I "str_ascii_iterator" ⟨a.toArray⟩ t i) :=
 Iter.ofWalks (Walks.strAscii hh I ⟨a.toArray⟩ t) (by rw [DR]; simp) (fun i h st b hb => by simp at hb; subst hb; obtain ⟨o, e1, _, e2⟩ := st; exact ⟨o, e1, fun w q => by rw [e2] at q; cases q⟩)
  (fun b hb => .inl hb)
  (fun i v d hP hd => by obtain ⟨ch, q1, rfl⟩ := DQ hd; obtain ⟨c', u, e1, rfl⟩ := hP; simp at e1; rw [q1] at e1; cases e1; exact .str [_] u)
  (fun i h st => by obtain ⟨o, e1, e2, _⟩ := st; exact ⟨o, _, e1, e2, by decide⟩)
theorem ON {a b : Int} {i : Nat} {d : D} (h : (fF a b)[i]? = some d) : d = .int (a + (i : Int)) := by
 unfold fF at h
 rw [List.getElem?_map] at h
 obtain ⟨k, h1, h2⟩ := Option.map_eq_some_iff.mp h
 rw [List.getElem?_range (by have := (List.getElem?_eq_some_iff.mp h1).1; simpa using this)] at h1
 cases h1
 exact h2.symm
theorem Iter.range {tg : Expr} {I : Addr} {a b : Int} (hh : A.handled = none) :
  Iter c A tg I [I] [I] F0 bD (fF a b) (fun i h => IsRangeIter h I (a + (i : Nat) * 1) (((b - a).toNat : Int) - (i : Nat)) 1) :=
 Iter.ofWalks (Walks.range hh I a 1 (b - a).toNat) (by simp [fF]) (fun i h st b hb => by simp at hb; subst hb; exact ⟨_, st, fun w q => by cases q⟩)
  (fun b hb => .inl hb)
  (fun i v d hP hd => by obtain ⟨u, rfl⟩ := hP; rw [ON hd, Int.mul_one]; exact .int _ u)
  (fun i h st => ⟨_, _, st, rfl, by decide⟩)
theorem Iter.E0 {elts : List Expr} {kk : Nat} {pos : Pos} {I : Addr} {fp wr own : List Addr} {n : Nat} {ds : List D} {P : Nat → Array Value → Prop} {St : Nat → Heap → Prop} {Hl : Nat → Addr → Heap → Prop} (Wk : WalksT c.prog c.w A I fp wr n P St Hl) (hn : ds.length = n)
  (xu : ∀ b ∈ wr, b ∈ own) (live : ∀ i h, St i h → ∀ b ∈ own, ∃ o, h.get? b = some o ∧ ∀ w, o.data ≠ .cell w) (frozen : ∀ b ∈ fp, b ∈ own ∨ ∃ o, F0.o b = some o)
  (val : ∀ i vals d, P i vals → ds[i]? = some d → ∃ xs, d = .tup xs ∧ aC c.C F0 bD vals.toList xs) :
  Iter c A (.Tuple elts kk pos) I fp own F0 bD ds St where
 frame := Wk.frame
 live := live
 frozen := frozen
 turn := fun i d s Q E hd st hQ => by
  have hi : i < n := by rw [← hn]; exact (List.getElem?_eq_some_iff.mp hd).1
  refine wpAny_with_toks (n := s.toks) (Nat.le_refl _) (Wk.item i s _ _ hi st fun T vals h1 tk hP eZ hT hm hk ht => ⟨.ref T, rfl, ?_⟩)
  have iR : s.toks ≤ tk := ht
  refine Wk.go elts kk pos i T _ _ E hm fun h2 gX s8 => ?_
  obtain ⟨xs, rfl, hr⟩ := val i vals d hP hd
  obtain ⟨o, e1, e2, m, e3⟩ := hT
  have I3 : h2.get? T = some o := s8 T o (Wk.apart i T _ hm) e1
  refine hQ (.ref T) _ (fun b o hb e => s8 b o (fun q => hb (xu b q)) (hk b o (fun q => hb (xu b q)) e)) rfl rfl iR gX (.tup (vs := vals.toList) (n := m) (gV eZ) I3 e2 (by simpa using e3) hr)
 done := fun s Q E st hQ => by
  refine wpAny_with_toks (n := s.toks) (Nat.le_refl _) (Wk.done s _ _ (hn ▸ st) fun h' tk hk ht => ?_)
  have iR : s.toks ≤ tk := ht
  exact hQ _ (fun b o hb e => hk b o (fun q => hb (xu b q)) e) rfl rfl iR
 self := Wk.self
theorem BA : ∀ {xs : List D} {k i : Nat} {d : D}, (jH k xs)[i]? = some d → ∃ x, xs[i]? = some x ∧ d = .tup [.int ((k + i : Nat) : Int), x] := @fun aa ak aS => @(match aa, ak, aS with
 | [], k, i => @fun d h => by simp [jH] at h
 | x :: xs, k, 0 => @fun d h => by simp [jH] at h; exact ⟨x, rfl, by simp [← h]⟩
 | x :: xs, k, i + 1 => @fun d h => by
  obtain ⟨y, q1, q2⟩ := BA (xs := xs) (k := k + 1) (i := i) (by simpa [jH] using h)
  exact ⟨y, by simpa using q1, by rw [q2, show k + 1 + i = k + (i + 1) by lia]⟩)
theorem vO : ∀ {xs : List D} {k : Nat}, (jH k xs).length = xs.length := @fun aa => @(match aa with
 | [] => @fun ξ => rfl
 | υ1 :: r => @fun k => by simp [jH, vO (xs := r)])
theorem G6 : ∀ {xs ys : List D} {i : Nat} {d : D}, (fY xs ys)[i]? = some d → ∃ x y, xs[i]? = some x ∧ ys[i]? = some y ∧ d = .tup [x, y] := @fun aa ak aS => @(match aa, ak, aS with
 | [], υ1, i => @fun d h => by simp [fY] at h
 | υ1 :: υ2, [], i => @fun d h => by simp [fY] at h
 | x :: xs, y :: ys, 0 => @fun d h => by simp [fY] at h; exact ⟨x, y, rfl, rfl, h.symm⟩
 | x :: xs, y :: ys, i + 1 => @fun d h => by simpa using G6 (xs := xs) (ys := ys) (i := i) (by simpa [fY] using h))
theorem Ab : ∀ {xs ys : List D}, (fY xs ys).length = min xs.length ys.length := @fun aa ak => match aa, ak with
 | [], υ1 => by simp [fY]
 | υ1 :: υ2, [] => by simp [fY]
 | υ1 :: xs, υ2 :: ys => by simp [fY, Ab (xs := xs) (ys := ys)]
theorem b7.one {a : Addr} (w : W c nm X env fa F ρ vars σ s) (h : s.heap.get? a = none) : b7 F X fa ρ σ [a] := fun b hb => by rw [List.mem_singleton.mp hb]; exact w.g.fresh h
theorem MB {d : D} {ds : List D} (h : itemsOf d = some ds) : d = .lst ds ∨ d = .tup ds ∨ ∃ a, d = .str a ∧ ds = bL a ∧ a.all (· < 128) = true := by
 cases d with
 | lst xs => exact .inl (congrArg D.lst (Option.some.inj h))
 | tup xs => exact .inr (.inl (congrArg D.tup (Option.some.inj h)))
 | str a => exact .inr (.inr ⟨a, rfl, (Option.some.inj (bx h).2).symm, (bx h).1⟩)
 | _ => (first | exact au h | exact ai h | exact nomatch h)
theorem eI.of {tg it : Expr} {d d' : D} {ds : List D} (hh : A.handled = none) (h : aA c nm X env fa A (eval it env) vars σ d σ1) (hf : Ev.cS σ1 d = some (d', σ')) (hi : itemsOf d' = some ds) : eI c nm X env fa A tg it vars σ ds σ' := by
 intro F ρ s Q Ex w post
 refine h F ρ s _ Ex w fun F1 aB v s1 l1 p1 w1 r1 => ?_
 obtain ⟨F2, l2, w2, r2⟩ := w1.cS r1 hf
 have qa := b7.one w2 (none_at_size s1.heap)
 rcases MB hi with rfl | rfl | ⟨a, rfl, rfl, Kn⟩
 ·obtain ⟨a, o, vs, n, rfl, ho, hc, hd, hs⟩ := r2.inv
  have hl : s1.heap.IsList a (List.toArray vs) := ⟨_, w2.g.f _ _ ho, hc, _, hd⟩
  have bH : a ≠ s1.heap.objs.size := Nat.ne_of_lt (Heap.lt_size (w2.g.f _ _ ho))
  refine wpAny_pyIter_list hl ?_
  exact post F2 aB _ _ _ _ _ (l1.trans l2) p1 (w2.keep .push) (Iter.list hh bH ho hs) ⟨⟨_, Heap.get?_push_size _ rfl, rfl, rfl⟩, hl.push _⟩ qa
 ·obtain ⟨a, o, vs, n, rfl, ho, hc, hd, hs⟩ := r2.inv
  have hl : s1.heap.IsTuple a (List.toArray vs) := ⟨_, w2.g.f _ _ ho, hc, _, hd⟩
  have bH : a ≠ s1.heap.objs.size := Nat.ne_of_lt (Heap.lt_size (w2.g.f _ _ ho))
  refine wpAny_pyIter_tuple hl ?_
  exact post F2 aB _ _ _ _ _ (l1.trans l2) p1 (w2.keep .push) (Iter.tuple hh bH ho hs) ⟨⟨_, Heap.get?_push_size _ rfl, rfl, rfl⟩, hl.push _⟩ qa
 ·obtain ⟨t, rfl⟩ := r2.inv
  refine wpAny_pyIter_ascii (by simpa using Kn) ?_
  exact post F2 aB _ _ _ _ _ (l1.trans l2) p1 (w2.keep .push) (Iter.str hh) ⟨_, Heap.get?_push_size _ rfl, rfl, rfl⟩ qa
theorem rP {x : Str} {b : Bi} {T : String} {p pos : Pos} {args : List Expr} {ds : List D} {Q : Value → Shared → Prop} {Ex : Value → Shared → Prop} (Z : cG c) (N : lB c) (hx : cu nm x = true) (hb : x = cU b) (hv : lG b = .type T ∨ lG b = .builtin T)
  (bB : (starEach args env).all (!·.1) = true) (ha : cy c nm X env fa A (spliced (backTo pos (starEach args env))) vars σ ds σ1) (w : W c nm X env fa F ρ vars σ s)
  (h : ∀ F1 aB vs s1, aG F F1 → ρ <+: aB → W c nm X env fa F1 aB vars σ1 s1 → aC c.C F1 aB vs ds → wpAny (model c.prog c.w) A (call (lG b) vs) Q Ex s1) : wpAny (model c.prog c.w) A (eval (.Call (.Name x p) args [] pos) env) Q Ex s := by
 subst hb
 obtain ⟨hl, dF⟩ := kG hx
 refine wpAny_bind (w.f.builtin Z w.g hl (N b) (j9 b).1 (j9 b).2 dF ?_)
 rcases hv with hv | hv
 ·rw [hv]
  refine uT bB (ha F ρ s _ Ex w fun F1 aB vs s1 l1 p1 w1 r1 => ?_)
  have := h F1 aB vs s1 l1 p1 w1 r1
  rw [hv] at this; exact this
 ·rw [hv]
  refine qX bB (ha F ρ s _ Ex w fun F1 aB vs s1 l1 p1 w1 r1 => ?_)
  have := h F1 aB vs s1 l1 p1 w1 r1
  rw [hv] at this; exact this
end
end Ev
end
section
namespace Ev
open PySem PySem.W PySem.Calls PyProof.Rows PySem.SeqAt
theorem Gk {i : Int} (h : small i = true) : i.natAbs < 2 ^ 62 := of_decide_eq_true h
theorem uu (a b : Int) : Builtin.Range.rangeSize a b 1 = ((b - a).toNat : Int) := by
 unfold Builtin.Range.rangeSize
 rw [if_pos (by decide)]
 split
 ·rw [Int.ediv_one]; lia
 ·lia
theorem Fy {a b : Int} (ha : small a = true) (hb : small b = true) : Builtin.Range.small a b 1 = true := by
 have h1 := Gk ha
 have h2 := Gk hb
 unfold Builtin.Range.small
 rw [uu]
 have f : ∀ i : Int, i.natAbs < 2 ^ 63 → Builtin.Range.rangeFitsLong i = true := by
  intro i hi
  unfold Builtin.Range.rangeFitsLong
  simp only [Bool.and_eq_true, decide_eq_true_eq]
  lia
 rw [f a (by lia), f b (by lia), f 1 (by decide), f _ (by lia)]
 simp only [Bool.true_and, Bool.or_eq_true]
 right
 rw [if_pos (by decide)]
 exact f _ (by lia)
section
variable {c : Cx} {nm : Nm} {X : aT} {fa : List (Option Addr)} {σ σ' σ1 σ2 bf : ae} {env : Env} {vars vars' bG : af} {A : Around} {F F' F0 : FM} {ρ ao bD : List (List Addr)} {s s' : Shared} {fl : aI}
theorem Kp.mk2 {h' : Heap} {tk : Nat} (h : ∀ b o, s.heap.get? b = some o → h'.get? b = some o) (ht : s.toks ≤ tk) : Kp s { s with heap := h', toks := tk } := Kp.mk' h ht
theorem Fw {ds : List D} {a b : Int} (e : jo ds = some (a, b)) : small a = true ∧ small b = true ∧ (b - a).toNat ≤ az ∧ ((ds = [.int b] ∧ a = 0) ∨ ds = [.int a, .int b]) := by
 match ds, e with
 | [x], e =>
  refine aO (show ((intD x).bind fun b => if small b && decide (b.toNat ≤ az) then some (0, b) else none) = some (a, b) from e) fun b' h1 h2 => ?_
  obtain ⟨hc, h2⟩ := bx h2
  obtain ⟨rfl, rfl⟩ := cg h2
  exact ⟨rfl, (aj hc).1, by rw [Int.sub_zero]; exact of_decide_eq_true (aj hc).2, .inl ⟨by rw [jh h1], rfl⟩⟩
 | [x, y], e =>
  refine aO (show ((intD x).bind fun a => (intD y).bind fun b => if small a && small b && decide ((b - a).toNat ≤ az) then some (a, b) else none) = some (a, b) from e) fun a' h1 h2 => aO h2 fun b' h3 h4 => ?_
  obtain ⟨hc, h4⟩ := bx h4
  obtain ⟨rfl, rfl⟩ := cg h4
  exact ⟨(aj (aj hc).1).1, (aj (aj hc).1).2, of_decide_eq_true (aj hc).2, .inr (by rw [jh h1, jh h3])⟩
 | [], e => (first | exact au e | exact ai e | exact nomatch e)
 | _ :: _ :: _ :: _, e => (first | exact au e | exact ai e | exact nomatch e)
theorem AY {ds : List D} {a b : Int} {vs : List Value} {Q : Value → Shared → Prop} {Ex : Value → Shared → Prop} (hr : aC c.C F ρ vs ds) (e : jo ds = some (a, b)) (w : W c nm X env fa F ρ vars σ s)
  (h : ∀ r t u v s1, Kp s s1 → IsRange s1.heap r a b 1 t u v → Builtin.Range.small a b 1 = true → (b - a).toNat ≤ az → Q (.ref r) s1) : wpAny (model c.prog c.w) A (call (.type "range") vs) Q Ex s := by
 obtain ⟨h1, h2, h3, ⟨rfl, rfl⟩ | rfl⟩ := Fw e
 ·obtain ⟨v, vs, rfl, r1, r2⟩ := hr.inv
  obtain rfl := (r2.inv : vs = [])
  obtain ⟨t, rfl⟩ := r1.inv
  exact call_range_1 (h _ _ _ _ _ (Kp.mk2 (fun b o e => Heap.get?_push_of_some _ e) (Nat.le_add_right s.toks 2)) (IsRange.new ..) (Fy h1 h2) h3)
 ·obtain ⟨v, vs, rfl, r1, r2⟩ := hr.inv
  obtain ⟨v2, vs, rfl, r4, r3⟩ := r2.inv
  obtain rfl := (r3.inv : vs = [])
  obtain ⟨t, rfl⟩ := r1.inv
  obtain ⟨u, rfl⟩ := r4.inv
  exact call_range_2 (h _ _ _ _ _ (Kp.mk2 (fun b o e => Heap.get?_push_of_some _ e) (Nat.le_succ s.toks)) (IsRange.new ..) (Fy h1 h2) h3)
theorem eI.range {tg : Expr} {x : Str} {p pos : Pos} {args : List Expr} {ds : List D} {a b : Int} (hh : A.handled = none) (Z : cG c) (N : lB c) (hx : cu nm x = true) (hb : x = cU .range)
  (bB : (starEach args env).all (!·.1) = true) (ha : cy c nm X env fa A (spliced (backTo pos (starEach args env))) vars σ ds σ1) (e : jo ds = some (a, b)) :
  eI c nm X env fa A tg (.Call (.Name x p) args [] pos) vars σ (fF a b) σ1 := by
 intro F ρ s Q Ex w post
 refine rP (T := "range") Z N hx hb (.inl rfl) bB ha w fun F1 aB vs s1 l1 p1 w1 r1 => ?_
 refine AY r1 e w1 fun r t u v s2 k2 hr jP hlen => ?_
 have w2 := w1.keep k2
 refine wpAny_pyIter_range hr jP ?_
 have qa := b7.one w2 (none_at_size s2.heap)
 refine post F1 aB _ _ _ _ _ l1 p1 (w2.keep .push) (Iter.range hh) ?_ qa
 have := Heap.get?_push_size s2.heap (o := { cls := .type "range_iterator", data := .fields #[rawInt a, rawInt (Builtin.Range.rangeSize a b 1), rawInt 1] }) rfl
 rw [uu] at this
 show IsRangeIter _ _ _ _ _
 simpa [uu] using this
theorem Fx : ∀ (n : Nat) (f : Nat → Int) (l : List Value), l.length = n → (∀ (i : Nat) v, l[i]? = some v → ∃ t, v = .int (f i) t) → aC c.C F ρ l ((List.range n).map fun k => .int (f k)) := @fun aa ak aS => @(match aa, ak, aS with
 | 0, f, l => @fun hl ξ => by rw [List.length_eq_zero_iff.mp hl]; exact .nil
 | n + 1, f, [] => @fun hl hv => by first | exact au hl | exact ai hl | exact nomatch hl
 | n + 1, f, v :: l => @fun hl hv => by
  rw [List.range_succ_eq_map, List.map_cons, List.map_map]
  obtain ⟨t, rfl⟩ := hv 0 v rfl
  exact .cons (.int _ t) (Fx n (fun k => f (k + 1)) l (Nat.succ.inj hl) fun i v h => hv (i + 1) v h))
theorem aA.Nc {x y : Str} {p pos p' pos' : Pos} {args : List Expr} {ds : List D} {a b : Int} (hh : A.handled = none) (Z : cG c) (N : lB c) (hy : cu nm y = true) (LG : y = cU .list) (hx : cu nm x = true) (hb : x = cU .range)
  (fU : starEach [Expr.Call (.Name x p) args [] pos] env = (false, eval (.Call (.Name x p) args [] pos) env) :: starEach [] env) (bB : (starEach args env).all (!·.1) = true) (ha : cy c nm X env fa A (spliced (backTo pos (starEach args env))) vars σ ds σ1) (e : jo ds = some (a, b)) :
  aA c nm X env fa A (eval (.Call (.Name y p') [.Call (.Name x p) args [] pos] [] pos') env) vars σ (.lst (fF a b)) σ1 := by
 intro F ρ s Q Ex w post
 subst LG
 obtain ⟨hl, dF⟩ := kG hy
 refine wpAny_bind (w.f.builtin Z w.g hl (N .list) (j9 .list).1 (j9 .list).2 dF ?_)
 refine uT (T := "list") (by rw [fU]; rfl) ?_
 rw [fU]
 refine spliced_cons ?_
 refine rP (T := "range") Z N hx hb (.inl rfl) bB ha w fun F1 aB vs s1 l1 p1 w1 r1 => ?_
 refine AY r1 e w1 fun r t u v s2 k2 hr jP hlen => spliced_nil ?_
 have w2 := w1.keep k2
 show wpAny _ _ (call (.type "list") [.ref r]) _ _ _
 refine wpAny_with_toks (n := s2.toks) (Nat.le_refl _) (call_list_range hh hr jP (uu a b) (by unfold az at hlen; lia) fun h' tk acc c' hk hg hit ht => ?_)
 have iR : s2.toks ≤ tk := ht
 have jM : aC c.C F1 aB acc.toList (fF a b) := Fx _ (fun k => a + (k : Int)) _ (Array.length_toList.trans hit.1) fun i v hv => by
  obtain ⟨t, e⟩ := hit.2 i v (by rw [← Array.getElem?_toList]; exact hv)
  exact ⟨t, by rw [e, Int.mul_one]⟩
 obtain ⟨F2, l2, w3, r3⟩ := w2.res (Kp.mk2 hk iR) (.lst (vs := acc.toList) (n := c') (none_at_size s2.heap) hg rfl (by simp) jM)
 exact post F2 aB _ _ (l1.trans l2) p1 w3 r3
end
end Ev
end
section
namespace Ev
open PySem PySem.W PySem.Calls PyProof.Rows PySem.SeqAt
theorem Q5 (k a b : Nat) (ha : a < k) (hb : b < k) : ZipApart (k + 4) (k + 2) (k + 3) k (k + 1) a b := by
 constructor <;> (show (_ : Nat) ≠ _; lia)
theorem all2 {P : Addr → Prop} {a b : Addr} (ha : P a) (hb : P b) : ∀ x ∈ [a, b], P x := List.forall_mem_cons.mpr ⟨ha, List.forall_mem_singleton.mpr hb⟩
theorem Au {P : Addr → Prop} {a b d e f : Addr} (ha : P a) (hb : P b) (hd : P d) (he : P e) (hf : P f) : ∀ x ∈ [a, b, d, e, f], P x :=
 List.forall_mem_cons.mpr ⟨ha, List.forall_mem_cons.mpr ⟨hb, List.forall_mem_cons.mpr ⟨hd, all2 he hf⟩⟩⟩
section
variable {c : Cx} {nm : Nm} {X : aT} {fa : List (Option Addr)} {σ σ' σ1 σ2 bf bX : ae} {env : Env} {vars vars' bG : af} {A : Around} {F F' F0 : FM} {ρ ao bD : List (List Addr)} {s s' : Shared} {fl : aI}
theorem eI.enum {elts : List Expr} {kk : Nat} {tp : Pos} {x : Str} {p pos : Pos} {e : Expr} {d : D} {xs : List D} (hh : A.handled = none) (Z : cG c) (N : lB c) (hx : cu nm x = true) (hb : x = cU .enumerate)
  (hs : starEach [e] env = (false, eval e env) :: starEach [] env) (he : aA c nm X env fa A (eval e env) vars σ d σ1) (hf : Ev.cS σ1 d = some (.lst xs, σ2)) :
  eI c nm X env fa A (.Tuple elts kk tp) (.Call (.Name x p) [e] [] pos) vars σ (jH 0 xs) σ2 := by
 intro F ρ s Q Ex w post
 refine rP (T := "enumerate") Z N hx hb (.inl rfl) (by rw [hs]; rfl) (cy.cons (ds := []) hs he cy.nil) w fun F1 aB vs s1 l1 p1 w1 r1 => ?_
 obtain ⟨v, vs, rfl, rv, rn⟩ := r1.inv
 obtain rfl := (rn.inv : vs = [])
 obtain ⟨F2, l2, w2, r2⟩ := w1.cS rv hf
 obtain ⟨a, o, us, n, rfl, ho, hc, hd, cJ⟩ := r2.inv
 have hl : s1.heap.IsList a us.toArray := ⟨_, w2.g.f _ _ ho, hc, _, hd⟩
 have halt : a < s1.heap.objs.size := Heap.lt_size (w2.g.f _ _ ho)
 show wpAny _ _ (call (.type "enumerate") [.ref a]) _ _ _
 refine call_enumerate_list hl fun h' q1 q2 q3 q4 => ?_
 have w3 : W c nm X env fa F2 aB vars σ2 { s1 with heap := h' } := w2.keep (Kp.mk2 (tk := s1.toks) q4 (Nat.le_refl _))
 have K1 : s1.heap.objs.size + 1 ≠ s1.heap.objs.size := Nat.succ_ne_self _
 refine wpAny_pyIter_enum (s := { s1 with heap := h' }) q1 ?_
 refine post F2 aB _ _ [s1.heap.objs.size + 1, s1.heap.objs.size] _ _ (l1.trans l2) p1 w3
  (Iter.E0 (WalksT.enumerate hh (s1.heap.objs.size + 1) s1.heap.objs.size a K1 (Nat.ne_of_lt (Nat.lt_succ_of_lt halt)) (Nat.ne_of_lt halt) us.toArray) (by rw [vO]; simp [cJ.length]) (fun b hb => hb) ?_ ?_ ?_)
  ⟨⟨_, q1⟩, q2, hl.at fun o e => q4 a o e⟩ ?_
 ·exact fun i h st => all2 (st.1.elim fun ξ e => ⟨_, e, fun w q => nomatch q⟩) (st.2.1.elim fun ξ e => ⟨_, e.1, fun w q => nomatch e.2.2.symm.trans q⟩)
 ·intro b hb
  rcases List.mem_cons.mp hb with rfl | hb
  ·exact .inl (.head _)
  ·exact all2 (P := fun b => b ∈ _ ∨ ∃ o, F2.o b = some o) (.inl (List.mem_cons_of_mem _ List.mem_cons_self)) (.inr ⟨_, ho⟩) b hb
 ·intro i vals d hP hd
  obtain ⟨t, u, e1, rfl⟩ := hP
  obtain ⟨y, e2, rfl⟩ := BA hd
  obtain ⟨u', e3, ru⟩ := cJ.get e2
  cases (e3.symm.trans (List.getElem?_toArray.symm.trans e1))
  refine ⟨_, rfl, .cons ?_ (.cons ru .nil)⟩
  rw [Nat.zero_add]; exact .int _ t
 ·exact all2 (w2.g.fresh (gV (Nat.le_succ _))) (w2.g.fresh (gV (Nat.le_refl _)))
theorem eI.zip {elts : List Expr} {kk : Nat} {tp : Pos} {x : Str} {p pos : Pos} {e1 e2 : Expr} {d1 d2 : D} {xs ys : List D} (hh : A.handled = none) (Z : cG c) (N : lB c) (hx : cu nm x = true) (hb : x = cU .zip)
  (fU : starEach [e1, e2] env = (false, eval e1 env) :: starEach [e2] env) (jO : starEach [e2] env = (false, eval e2 env) :: starEach [] env)
  (h1 : aA c nm X env fa A (eval e1 env) vars σ d1 σ1) (KA : Ev.cS σ1 d1 = some (.lst xs, σ2)) (h2 : aA c nm X env fa A (eval e2 env) vars σ2 d2 bf) (KC : Ev.cS bf d2 = some (.lst ys, bX)) :
  eI c nm X env fa A (.Tuple elts kk tp) (.Call (.Name x p) [e1, e2] [] pos) vars σ (fY xs ys) bX := by
 intro F ρ s Q Ex w post
 subst hb
 obtain ⟨p9, dF⟩ := kG hx
 refine wpAny_bind (w.f.builtin Z w.g p9 (N .zip) (j9 .zip).1 (j9 .zip).2 dF ?_)
 refine uT (T := "zip") (by rw [fU, jO]; rfl) ?_
 rw [fU]
 refine spliced_cons (h1 F ρ s _ Ex w fun F1 aB v1 s1 l1 p1 w1 r1 => ?_)
 obtain ⟨F2, l2, w2, r2⟩ := w1.cS r1 KA
 rw [jO]
 refine spliced_cons (h2 F2 aB s1 _ Ex w2 fun F3 eF v3 s3 l3 p3 w3 r3 => spliced_nil ?_)
 obtain ⟨F4, l4, w4, r4⟩ := w3.cS r3 KC
 obtain ⟨a, o, us, n, rfl, ho, hc, hd, hr⟩ := (r2.mono (l3.trans l4) p3).inv
 obtain ⟨b, o', uN, n', rfl, lY, je, kq, C0⟩ := r4.inv
 have hl : s3.heap.IsList a us.toArray := ⟨_, w4.g.f _ _ ho, hc, _, hd⟩
 have ee : s3.heap.IsList b uN.toArray := ⟨_, w4.g.f _ _ lY, je, _, kq⟩
 have halt : a < s3.heap.objs.size := Heap.lt_size (w4.g.f _ _ ho)
 have Kq : b < s3.heap.objs.size := Heap.lt_size (w4.g.f _ _ lY)
 show wpAny _ _ (call (.type "zip") [.ref a, .ref b]) _ _ _
 refine call_zip_2 hl ee fun h' q1 q2 q3 q4 q5 q6 q7 => ?_
 have w5 : W c nm X env fa F4 eF vars bX { s3 with heap := h' } := w4.keep (Kp.mk2 (tk := s3.toks) q7 (Nat.le_refl _))
 have ap : ZipApart (s3.heap.objs.size + 4) (s3.heap.objs.size + 2) (s3.heap.objs.size + 3) s3.heap.objs.size (s3.heap.objs.size + 1) a b := by
  exact Q5 _ _ _ halt Kq
 refine wpAny_pyIter_zip (s := { s3 with heap := h' }) q1 ?_
 refine post F4 eF _ _ [s3.heap.objs.size + 4, s3.heap.objs.size + 2, s3.heap.objs.size + 3, s3.heap.objs.size, s3.heap.objs.size + 1] _ _ ((l1.trans l2).trans (l3.trans l4)) (p1.trans p3) w5
  (Iter.E0 (WalksT.zip2 hh _ _ _ _ _ a b ap us.toArray uN.toArray) (by rw [Ab]; simp [hr.length, C0.length]) ?_ ?_ ?_ ?_)
  ⟨q1, q2, ⟨_, _, q3⟩, q4, q5, hl.at fun o e => q7 a o e, ee.at fun o e => q7 b o e⟩ ?_
 ·exact fun b hb => (List.mem_cons.mp hb).elim (fun h => List.mem_cons.mpr (.inl h)) fun h => .tail _ (.tail _ h)
 ·exact fun i h st => Au ⟨_, st.1, fun w q => nomatch q⟩ ⟨_, st.2.1, fun w q => nomatch q⟩ (st.2.2.1.elim fun ξ e => e.elim fun ξ e => ⟨_, e, fun w q => nomatch q⟩) (st.2.2.2.1.elim fun ξ e => ⟨_, e.1, fun w q => nomatch e.2.2.symm.trans q⟩) (st.2.2.2.2.1.elim fun ξ e => ⟨_, e.1, fun w q => nomatch e.2.2.symm.trans q⟩)
 ·intro b' hb
  rcases List.mem_append.mp (show b' ∈ [s3.heap.objs.size + 4, s3.heap.objs.size + 2, s3.heap.objs.size + 3, s3.heap.objs.size, s3.heap.objs.size + 1] ++ [a, b] from hb) with hb | hb
  ·exact .inl hb
  ·exact .inr (all2 (P := fun b => ∃ o, F4.o b = some o) ⟨_, ho⟩ ⟨_, lY⟩ b' hb)
 ·intro i vals d hP hd
  obtain ⟨u, u', e1, e2, rfl⟩ := hP
  obtain ⟨y, y', e3, e4, rfl⟩ := G6 hd
  obtain ⟨z, e5, rz⟩ := hr.get e3
  obtain ⟨z', e6, Pj⟩ := C0.get e4
  cases e5.symm.trans (List.getElem?_toArray.symm.trans e1)
  cases e6.symm.trans (List.getElem?_toArray.symm.trans e2)
  exact ⟨_, rfl, .cons rz (.cons Pj .nil)⟩
 ·have fr := fun k => w4.g.fresh (gV (Nat.le_add_right s3.heap.objs.size k))
  exact Au (fr 4) (fr 2) (fr 3) (fr 0) (fr 1)
end
end Ev
end
section
namespace Ev
open PySem PySem.W PySem.Calls PyProof.Rows PySem.SeqAt
noncomputable def dw (env : Env) : List (Str × NameKind) → List (Str × Addr) → List (Str × Addr) := @fun aa ak => match aa, ak with
 | [], acc => acc
 | (x, k) :: r, acc => if k == .free then dw env r ((x, (env.cells.lookup x).getD 0) :: acc) else dw env r acc
theorem IG {scope : Scope} {env : Env} (h : ∀ x, (x, NameKind.free) ∈ scope.names → ∃ a, env.cells.lookup x = some a) : closureFor scope env = pure (dw env scope.names []) := by
 have main : ∀ (f : Str × NameKind → List (Str × Addr) → Sem (ForInStep (List (Str × Addr)))), (∀ x k cs, f (x, k) cs = if k == .free then (do let a ← cellOf env x; pure (ForInStep.yield ((x, a) :: cs))) else pure (ForInStep.yield cs)) →
   ∀ (l : List (Str × NameKind)) (acc : List (Str × Addr)), (∀ x, (x, NameKind.free) ∈ l → ∃ a, env.cells.lookup x = some a) → forIn l acc f = (pure (dw env l acc) : Sem _) := by
  intro f hf l
  induction l with
  | nil => intro acc _; rfl
  | cons p r ih =>
   obtain ⟨x, k⟩ := p
   intro acc hl
   rw [List.forIn_cons, hf]
   unfold dw
   by_cases hk : (k == NameKind.free) = true
   ·rw [if_pos hk, if_pos hk]
    have gr : k = .free := by simpa using hk
    subst gr
    obtain ⟨a, ha⟩ := hl x (by simp)
    have hc : cellOf env x = pure a := by unfold cellOf; rw [ha]
    rw [hc, ha]
    exact ih _ fun y hy => hl y (by simp [hy])
   ·rw [if_neg hk, if_neg hk]
    exact ih _ fun y hy => hl y (by simp [hy])
 unfold closureFor
 dsimp only
 rw [main _ (fun x k cs => rfl) scope.names [] h]
 rfl
theorem vD {env : Env} {x : Str} : ∀ {l : List (Str × NameKind)} {acc : List (Str × Addr)}, (∀ k, (x, k) ∉ l) → (dw env l acc).lookup x = acc.lookup x := @fun aa => @(match aa with
 | [] => @fun acc ξ => rfl
 | (y, k) :: r => @fun acc h => by
  have hr : ∀ k, (x, k) ∉ r := fun k' hm => h k' (by simp [hm])
  have bH : (x == y) = false := by rw [beq_eq_false_iff_ne]; intro q; subst q; exact h k (by simp)
  unfold dw
  split
  ·rw [vD hr, List.lookup_cons, bH]
  ·exact vD hr)
theorem rT {env : Env} {x : Str} {a : Addr} (ha : env.cells.lookup x = some a) : ∀ {l : List (Str × NameKind)} {acc : List (Str × Addr)}, (l.map (·.1)).Nodup → (x, NameKind.free) ∈ l → (dw env l acc).lookup x = some a := @fun aa => @(match aa with
 | [] => @fun acc ξ h => by simp at h
 | (y, k) :: r => @fun acc nd h => by
  simp only [List.map_cons, List.nodup_cons] at nd
  unfold dw
  rcases List.mem_cons.mp h with e | hm
  ·cases e
   rw [if_pos (by decide), vD fun k hm => nd.1 (List.mem_map.mpr ⟨_, hm, rfl⟩), List.lookup_cons, beq_self_eq_true, ha]; rfl
  ·split
   ·exact rT ha nd.2 hm
   ·exact rT ha nd.2 hm)
theorem pB : ∀ (names : List (Str × NameKind)) (n : Nat) (acc : List (Str × Addr)), cellsFrom n names acc = cellsFrom n names [] ++ acc := @fun aa => @(match aa with
 | [] => @fun n acc => rfl
 | (x, k) :: r => @fun n acc => by
  unfold cellsFrom
  split
  ·rw [pB r (n + 1) ((x, n) :: acc), pB r (n + 1) [(x, n)]]; simp
  ·exact pB r n acc)
theorem vy : ∀ {names : List (Str × NameKind)} {n : Nat} {acc : List (Str × Addr)} {x : Str} {a : Addr}, (x, a) ∈ cellsFrom n names acc → (x, NameKind.cell) ∈ names ∨ (x, a) ∈ acc := @fun aa => @(match aa with
 | [] => @fun n acc x a h => .inr h
 | (y, k) :: r => @fun n acc x a h => by
  unfold cellsFrom at h
  split at h
  ·rename_i hk
   rcases vy h with h1 | h1
   ·exact .inl (by simp [h1])
   ·rcases List.mem_cons.mp h1 with e | e
    ·have gr : k = .cell := by simpa using hk
     cases e; subst gr; exact .inl (by simp)
    ·exact .inr e
  ·rcases vy h with h1 | h1
   ·exact .inl (by simp [h1])
   ·exact .inr h1)
theorem ya {α : Type} {x : Str} : ∀ {l r : List (Str × α)}, (l ++ r).lookup x = (l.lookup x).or (r.lookup x) := @fun aa => @(match aa with
 | [] => @fun r => by simp
 | (y, a) :: l => @fun r => by
  rw [List.cons_append, List.lookup_cons, List.lookup_cons]
  split
  ·rfl
  ·exact ya)
theorem Eh {α : Type} {x : Str} : ∀ {l : List (Str × α)}, (∀ a, (x, a) ∉ l) → l.lookup x = none := @fun aa => @(match aa with
 | [] => @fun ξ => rfl
 | (y, a) :: l => @fun h => by
  have bH : (x == y) = false := by rw [beq_eq_false_iff_ne]; intro q; subst q; exact h a (by simp)
  rw [List.lookup_cons, bH]
  exact Eh fun b hb => h b (by simp [hb]))
section
variable {prog : Program} {w : World} {A : Around} {E : Value → Shared → Prop} {R : Result → Shared → Prop} {s : Shared}
theorem IP {elt target iter : Expr} {ifs : List Expr} {scope : Scope} {pos : Pos} {it acc : Value} {env : Env} (I : Nat → Shared → Prop)
  (turn : ∀ n s, I n s → wpAny (model prog w) A (pyNext it) (fun r s₁ => match r with
   | none => R (.ok .next) s₁
   | some v => wpAny (model prog w) A (letOwnedTupleGo target it v) (fun ξ GH => wpAny (model prog w) A (assign target env v) (fun ξ eU =>
     wpAny (model prog w) A (forIn ifs true fun c r => if r = true then do let ok ← isTrue c env (eval c env); pure (ForInStep.yield ok) else pure (ForInStep.yield r)) (fun ok oN =>
      if ok = true then wpAny (model prog w) A (eval elt env) (fun x uI =>
       wpAny (model prog w) A (call (.builtin "list.append") [acc, x]) (fun ξ uJ => ∃ m, m < n ∧ I m uJ) (notedBy (model prog w) A env fun e s' => R (.error e) s') uI) (notedBy (model prog w) A env fun e s' => R (.error e) s') oN
      else ∃ m, m < n ∧ I m oN) (notedBy (model prog w) A env fun e s' => R (.error e) s') eU) (notedBy (model prog w) A env fun e s' => R (.error e) s') GH) (notedBy (model prog w) A env fun e s' => R (.error e) s') s₁) (notedBy (model prog w) A env fun e s' => R (.error e) s') s)
  (n : Nat) (h : I n s) :
  codeAny (model prog w) A (.compLoop (.ListComp elt [⟨target, iter, ifs, 0⟩] scope pos) 0 it acc env) R s := by
 refine codeAny_loop rfl I (fun n s hI => ?_) n h
 show wpAny _ A ((compTurn (.ListComp elt [⟨target, iter, ifs, 0⟩] scope pos) 0 it acc env).onRaise (fun x => do noteFrame x env; theTreesLotGoes x)) _ _ s
 refine wpAny_noted ?_
 rw [compTurn_list]
 refine wpAny_bind (wpAny_standAt (wpAny_bind (wpAny_mono (turn n s hI) (fun r s₁ mj => ?_) fun ξ ξ h' => h')))
 cases r with
 | none => exact wpAny_pure mj
 | some v =>
  refine wpAny_bind (wpAny_mono mj (fun ξ GH LJ => ?_) fun ξ ξ h' => h')
  refine wpAny_bind (wpAny_mono LJ (fun ξ eU mq => wpAny_bind (wpAny_mono mq (fun ok oN Dc => ?_) fun ξ ξ h' => h')) fun ξ ξ h' => h')
  cases ok with
  | false => exact wpAny_pure ⟨rfl, Dc⟩
  | true =>
   exact wpAny_bind (wpAny_bind (wpAny_mono Dc (fun x uI LK => wpAny_bind (wpAny_mono LK (fun ξ uJ LM => wpAny_pure (wpAny_pure ⟨rfl, LM⟩)) fun ξ ξ h' => h')) fun ξ ξ h' => h'))
end
section
variable {c : Cx} {nm : Nm} {X : aT} {fa : List (Option Addr)} {σ σ' σ1 σ2 bf bX : ae} {env : Env} {vars vars' bG : af} {A : Around} {F F' F0 : FM} {ρ ao bD : List (List Addr)} {s s' : Shared} {fl : aI}
theorem Iter.P1 {tg : Expr} {I : Addr} {fp own own' : List Addr} {ds : List D} {St : Nat → Heap → Prop} (it : Iter c A tg I fp own F0 bD ds St) (qg : ∀ b ∈ own, b ∈ own') (w : W c nm X env fa F ρ vars σ s) (hg : b7 F X fa ρ σ own') (nU : ∀ b ∈ own', ∃ o, s.heap.get? b = some o) (le : aG F0 F) (hp : bD <+: ρ)
  {i : Nat} {d : D} (hd : ds[i]? = some d) (st : St i s.heap) {Q : Value → Shared → Prop} {E : Value → Shared → Prop}
  (post : ∀ v s' F', aG F F' → W c nm X env fa F' ρ vars σ s' → b7 F' X fa ρ σ own' → St (i + 1) s'.heap → Rv c.C F' ρ v d → (∀ b o, b ∉ own → s.heap.get? b = some o → s'.heap.get? b = some o) → Q v s') :
  wpAny (model c.prog c.w) A (pyNext (.ref I)) (fun r s1 => ∃ v, r = some v ∧ wpAny (model c.prog c.w) A (letOwnedTupleGo tg (.ref I) v) (fun ξ s2 => Q v s2) E s1) E s := by
 refine it.turn i d s Q E hd st fun v s' hk h1 h2 h3 cY r => ?_
 have w' := w.jk (own := own') hg (fun b o hb e => hk b o (fun q => hb (qg b q)) e) h1 h2 h3
 obtain ⟨F', l, w2, g2, r2⟩ := w.FH w' hg nU (r.mono le hp)
 exact post v s' F' l w2 g2 cY r2 hk
structure m9 (c : Cx) (nm : Nm) (X : aT) (env : Env) (fa : List (Option Addr)) (Da : Addr) (own : List Addr) (St : Nat → Heap → Prop) (ds rs : List D) (f : D → af → ae → Option (Option D × af × ae)) (σ' : ae)
  (i : Nat) (F : FM) (ρ : List (List Addr)) (vars : af) (σ : ae) (ws : List Value) (m : Nat) (done rest : List D) (s : Shared) : Prop where
 le : i ≤ ds.length
 w : W c nm X env fa F ρ vars σ s
 g : b7 F X fa ρ σ (Da :: own)
 st : St i s.heap
 hD : s.heap.get? Da = some { cls := .type "list", data := .seq ws.toArray m }
 ws : aC c.C F ρ ws done
 dl : done.length ≤ i
 rs : rs = done ++ rest
 e : d8 f (ds.drop i) vars σ = some (rest, σ')
inductive Ad (c : Cx) (nm : Nm) (X : aT) (env : Env) (fa : List (Option Addr)) (Da : Addr) (own : List Addr) (St : Nat → Heap → Prop) (ds rs : List D) (f : D → af → ae → Option (Option D × af × ae)) (σ' : ae) (F0 : FM) (bD : List (List Addr)) (n : Nat) (s : Shared) : Prop
 | mk (i : Nat) (F2 : FM) (aQ : List (List Addr)) (dG : af) (σ2 : ae) (ws : List Value) (m : Nat) (done rest : List D) (hn : n = ds.length + 1 - i) (l2 : aG F0 F2) (p2 : bD <+: aQ) (h : m9 c nm X env fa Da own St ds rs f σ' i F2 aQ dG σ2 ws m done rest s)
noncomputable def fq (T : Ev.T) (dj : af → ae → Option (Bool × ae)) (el : af → ae → Option (D × ae)) (d : D) (vs : af) (σ : ae) : Option (Option D × af × ae) :=
 (cz T d vs).bind fun vs => (dj vs σ).bind fun (ok, σ) => if ok then (el vs σ).map fun (r, σ) => (some r, vs, σ) else some (none, vs, σ)
noncomputable def QF (c : Cx) (A : Around) (env : Env) (t elt : Expr) (ifs : List Expr) (Da : Addr) (E : Value → Shared → Prop) (P : Shared → Prop) (v : Value) (s : Shared) : Prop :=
 wpAny (model c.prog c.w) A (assign t env v) (fun ξ eU =>
  wpAny (model c.prog c.w) A (forIn ifs true fun c r => if r = true then do let ok ← isTrue c env (eval c env); pure (ForInStep.yield ok) else pure (ForInStep.yield r)) (fun ok oN =>
   if ok = true then wpAny (model c.prog c.w) A (eval elt env) (fun x uI => wpAny (model c.prog c.w) A (call (.builtin "list.append") [.ref Da, x]) (fun ξ uJ => P uJ) E uI) E oN
   else P oN) E eU) E s
theorem Iter.Eb {tg : Expr} {I Da : Addr} {fp own : List Addr} {ds : List D} {St : Nat → Heap → Prop} (it : Iter c A tg I fp own F0 bD ds St) {j : Nat} {h : Heap} {vs : Array Value} {m : Nat} (st : St j h) (hd : h.get? Da = some { cls := .type "list", data := .seq vs m }) :
  ∀ b ∈ Da :: own, ∃ o, h.get? b = some o ∧ ∀ w, o.data ≠ .cell w := fun b hb => by
 rcases List.mem_cons.mp hb with rfl | hb
 ·exact ⟨_, hd, fun w q => nomatch q⟩
 ·exact it.live _ _ st b hb
theorem Iter.NX {tg : Expr} {I Da : Addr} {fp own : List Addr} {ds : List D} {St : Nat → Heap → Prop} (it : Iter c A tg I fp own F0 bD ds St) (jL : Da ∉ own) (le : aG F0 F) (hn : F.o Da = none) {h h' : Heap} {i : Nat} (st : St i h) (hs : ∀ b, b ≠ Da → h'.get? b = h.get? b) : St i h' := by
 refine it.frame _ _ _ st fun b hb o e => (hs b fun q => ?_).trans e
 subst q
 rcases it.frozen b hb with ho | ⟨o', ho⟩
 ·exact jL ho
 ·rw [le.o b o' ho] at hn; (first | exact au hn | exact ai hn | exact nomatch hn)
theorem m9.size {Da : Addr} {own : List Addr} {St : Nat → Heap → Prop} {ds rs : List D} {f : D → af → ae → Option (Option D × af × ae)} {i : Nat} {ws : List Value} {m : Nat} {done rest : List D} (h : m9 c nm X env fa Da own St ds rs f σ' i F ρ vars σ ws m done rest s) (hlen : ds.length ≤ az) : ws.toArray.size ≤ sizeLine := by
 show ws.length ≤ sizeLine
 rw [h.ws.length]
 exact iW (Nat.le_trans (Nat.le_trans h.dl h.le) hlen)
theorem m9.turn {elt t iter : Expr} {ifs : List Expr} {T : Ev.T} {I Da : Addr} {fp own : List Addr} {ds rs : List D} {St : Nat → Heap → Prop} {Ex : Value → Shared → Prop}
  {dj : af → ae → Option (Bool × ae)} {el : af → ae → Option (D × ae)} (hh : A.handled = none) (ht : b9 nm T t = true) (it : Iter c A t I fp own F0 bD ds St) (jL : Da ∉ own) (hlen : ds.length ≤ az)
  (jQ : ∀ X' vars σ b σ', dj vars σ = some (b, σ') → bN c nm X' env fa A (forIn ifs true fun c r => if r = true then do let ok ← isTrue c env (eval c env); pure (ForInStep.yield ok) else pure (ForInStep.yield r)) vars σ b σ')
  (jN : ∀ X' vars σ d σ', el vars σ = some (d, σ') → aA c nm X' env fa A (eval elt env) vars σ d σ')
  {i : Nat} {ws : List Value} {m : Nat} {done rest : List D} (l2 : aG F0 F) (p2 : bD <+: ρ) (h : m9 c nm X env fa Da own St ds rs (fq T dj el) σ' i F ρ vars σ ws m done rest s) (aZ : i < ds.length) :
  wpAny (model c.prog c.w) A (pyNext (.ref I)) (fun r s1 => ∃ v, r = some v ∧ wpAny (model c.prog c.w) A (letOwnedTupleGo t (.ref I) v) (fun ξ s2 => QF c A env t elt ifs Da Ex (fun s5 => ∃ mm, mm < ds.length + 1 - i ∧ Ad c nm X env fa Da own St ds rs (fq T dj el) σ' F0 bD mm s5) v s2) Ex s1) Ex s := by
 have e2 := h.e
 rw [List.drop_eq_getElem_cons aZ] at e2
 refine aO (show ((fq T dj el ds[i] vars σ).bind fun r => (d8 (fq T dj el) (ds.drop (i + 1)) r.2.1 r.2.2).map fun q => (rY r.1 q.1, q.2)) = some (rest, σ') from e2) fun r hr e3 => aO hr fun mX ha e4 => aO e4 fun q Li e5 => bT e3 fun q2 hcd e6 => ?_
 obtain ⟨OW, Rt⟩ := q2
 obtain ⟨C3, rfl⟩ := Prod.mk.inj e6
 refine it.P1 (own' := Da :: own) (fun b hb => List.mem_cons_of_mem _ hb) h.w h.g (fun b hb => let ⟨o, e, _⟩ := it.Eb h.st h.hD b hb; ⟨o, e⟩) l2 p2 (List.getElem?_eq_getElem aZ) h.st fun v s3 F3 l3 w3 lX gE r3 wU => ?_
 have wD := wU Da _ jL h.hD
 have sX : ∀ b ∈ Da :: own, X b = none := fun b hb => (lX b hb).2.1
 have nU := it.Eb gE wD
 refine eH.target (X := hid (· ∈ Da :: own) X s3.heap) hh ht ha F3 ρ σ s3 v _ _ (w3.nQ lX) r3 fun s4 w4 => ?_
 obtain ⟨ok, bf⟩ := q
 refine jQ _ _ _ _ _ Li F3 ρ s4 _ _ w4 fun F5 gI s5 l5 p5 w5 => ?_
 have LL := l2.trans (l3.trans l5)
 have PP := p2.trans p5
 have qN : ∀ {F6 : FM} {s6 : Shared}, aG F3 F6 → (∀ a o, F6.o a = some o → s6.heap.get? a = some o) → (∀ b ∈ Da :: own, ∀ o, s3.heap.get? b = some o → s6.heap.get? b = some o) → St (i + 1) s6.heap := fun l f k =>
  it.qN gE (fun a o h => w3.g.f a o ((l2.trans l3).o a o h)) (fun a o h => f a o ((l2.trans (l3.trans l)).o a o h)) fun b hb o e => k b (List.mem_cons_of_mem _ hb) o e
 cases ok with
 | false =>
  obtain ⟨w6, k6, sZ⟩ := w5.mT sX nU
  cases e5
  exact ⟨_, sub_lt aZ, i + 1, F5, gI, mX, bf, ws, m, done, rest, rfl, LL, PP, ⟨aZ, w6, sZ, qN l5 w6.g.f k6, k6 Da List.mem_cons_self _ wD, h.ws.mono (l3.trans l5) p5, Nat.le_succ_of_le h.dl, h.rs, C3 ▸ hcd⟩⟩
 | true =>
  refine bT (show ((el mX bf).map fun p => (some p.1, mX, p.2)) = some r from e5) fun p wN e7 => ?_
  obtain ⟨d, bX⟩ := p
  cases e7
  refine jN _ _ _ _ _ wN F5 gI s5 _ _ w5 fun F7 Q8 u s7 l7 p7 w7 r7 => ?_
  obtain ⟨w8, k8, wO⟩ := w7.mT sX nU
  refine wpAny_list_append_plain ⟨m, k8 Da List.mem_cons_self _ wD⟩ (fun h' kD cJ => ?_) (h.size hlen)
  obtain ⟨m', kD⟩ := kD
  have xm : h'.get? Da = some { cls := .type "list", data := .seq (ws ++ [u]).toArray m' } := by rw [kD, List.push_toArray]
  refine ⟨_, sub_lt aZ, i + 1, F7, Q8, mX, bX, ws ++ [u], m', done ++ [d], OW, rfl, LL.trans l7, PP.trans p7, ⟨aZ, w8.jk (own := Da :: own) wO (fun b o hb e => (cJ.2 b (fun q => hb (by rw [q]; exact List.mem_cons_self))).trans e) rfl rfl (Nat.le_refl _), wO,
   it.NX jL (LL.trans l7) (wO Da List.mem_cons_self).1 (qN (l5.trans l7) w8.g.f k8) cJ.2, xm, (h.ws.mono (l3.trans (l5.trans l7)) (p5.trans p7)).append (.cons r7 .nil), ?_, ?_, hcd⟩⟩
  ·rw [List.length_append]; exact Nat.succ_le_succ h.dl
  ·rw [h.rs, List.append_assoc, ← C3]; rfl
theorem IQ {elt t iter : Expr} {ifs : List Expr} {scope : Scope} {pos : Pos} {T : Ev.T} {I Da : Addr} {fp own : List Addr} {ds rs : List D} {St : Nat → Heap → Prop} {R : Result → Shared → Prop}
  {dj : af → ae → Option (Bool × ae)} {el : af → ae → Option (D × ae)} (hh : A.handled = none) (ht : b9 nm T t = true) (it : Iter c A t I fp own F0 bD ds St) (jL : Da ∉ own) (hlen : ds.length ≤ az)
  (jQ : ∀ X' vars σ b σ', dj vars σ = some (b, σ') → bN c nm X' env fa A (forIn ifs true fun c r => if r = true then do let ok ← isTrue c env (eval c env); pure (ForInStep.yield ok) else pure (ForInStep.yield r)) vars σ b σ')
  (jN : ∀ X' vars σ d σ', el vars σ = some (d, σ') → aA c nm X' env fa A (eval elt env) vars σ d σ')
  (w : W c nm X env fa F0 bD vars σ s) (hg : b7 F0 X fa bD σ (Da :: own)) (st : St 0 s.heap) (hD : s.heap.get? Da = some { cls := .type "list", data := .seq ([] : List Value).toArray 0 })
  (e : d8 (fq T dj el) ds vars σ = some (rs, σ'))
  (post : ∀ F' ao vars' s' ws n, aG F0 F' → bD <+: ao → W c nm X env fa F' ao vars' σ' s' → b7 F' X fa ao σ' (Da :: own) → s'.heap.get? Da = some { cls := .type "list", data := .seq ws.toArray n } → aC c.C F' ao ws rs → R (.ok .next) s') :
  codeAny (model c.prog c.w) A (.compLoop (.ListComp elt [⟨t, iter, ifs, 0⟩] scope pos) 0 (.ref I) (.ref Da) env) R s := by
 refine IP (Ad c nm X env fa Da own St ds rs (fq T dj el) σ' F0 bD) ?_ (ds.length + 1)
  ⟨0, F0, bD, vars, σ, [], 0, [], rs, rfl, aG.rfl, List.prefix_refl _, ⟨Nat.zero_le _, w, hg, st, hD, .nil, Nat.le_refl _, rfl, e⟩⟩
 rintro n s2 ⟨i, F2, aQ, dG, σ2, ws, m, done, rest, rfl, l2, p2, h⟩
 rcases Nat.lt_or_ge i ds.length with aZ | jf
 ·refine wpAny_mono (m9.turn (iter := iter) (Ex := notedBy (model c.prog c.w) A env fun e s' => R (.error e) s') hh ht it jL hlen jQ jN l2 p2 h aZ) (fun r s3 h3 => h3.elim fun v h => h.1 ▸ h.2) fun ξ ξ h => h
 ·obtain rfl := Nat.le_antisymm h.le jf
  have e2 := h.e
  rw [List.drop_length] at e2
  obtain ⟨hr, rfl⟩ := cg e2
  have C4 := h.rs
  rw [← hr, List.append_nil] at C4
  subst C4
  refine it.done s2 _ _ h.st fun s3 hk h1 h2 h3 => ?_
  exact post F2 aQ dG s3 ws m l2 p2 (h.w.jk (own := Da :: own) h.g (fun b o hb e => hk b o (fun q => hb (List.mem_cons_of_mem _ q)) e) h1 h2 h3) h.g (hk Da _ jL h.hD) h.ws
end
end Ev
end
section
namespace Ev
open PySem PySem.W PySem.Calls PyProof.Rows PySem.SeqAt
theorem NS {M : Model} {A : Around} {E : Value → Shared → Prop} {s : Shared} {scope : Scope} {env : Env} {cl : List (Str × Addr)} {Q : Env → Shared → Prop}
  (h : Q (newEnv scope s.heap.objs.size env.globals (cellsFrom (s.heap.objs.size + 1) scope.names cl) env.qual none .none (some env) builtinsNs) { s with heap := pushCells (s.heap.push { cls := .type "dict", data := .dict #[] }) scope.names }) :
  wpAny M A (newFunctionEnv scope env.globals cl [] env.qual none .none (some env)) Q E s := by
 unfold newFunctionEnv
 refine wpAny_bind (wpAny_alloc ?_)
 refine wpAny_bind (wpAny_layCells _ (fun name kind cells => by cases hkc : kind == NameKind.cell <;> simp [hkc]) _ _ _ _ ?_)
 dsimp only
 rw [List.forIn_nil]
 refine wpAny_bind (wpAny_pure (wpAny_pure ?_))
 have hz : ({ s with heap := s.heap.push { cls := .type (if (some env).isSome = true then "dict" else "frame"), data := .dict #[] } } : Shared).heap.objs.size = s.heap.objs.size + 1 := Heap.size_push ..
 rw [hz]
 exact h
set_option tactic.hygienic true in
theorem qk {nm : Nm} : ∀ {inner : Nm} {aq : List (Option Nat)}, dN nm inner = some aq → aq.length = inner.length ∧
  ∀ (i : Nat) x k, inner[i]? = some (x, k) → ∃ o, aq[i]? = some o ∧ (k = .free → ∃ j k', o = some j ∧ nm[j]? = some (x, k') ∧ (k' = .cell ∨ k' = .free)) ∧ (k ≠ .free → o = none) := @fun aa => @(match aa with
 | [] => @fun aq h => by
  simp [dN] at h; subst h
  exact ⟨rfl, fun i x k e => by simp at e⟩
 | (y, q) :: r => @fun aq h => by
  unfold dN at h
  rw [List.mapM_cons] at h
  obtain ⟨o, h1, h2⟩ := Option.bind_eq_some_iff.mp h
  obtain ⟨LU, h3, h4⟩ := Option.bind_eq_some_iff.mp h2
  cases h4
  obtain ⟨q1, q2⟩ := qk (nm := nm) (inner := r) (aq := LU) h3
  refine ⟨by simp [q1], fun i x k e => ?_⟩
  cases i with
  | succ i => exact q2 i x k (by simpa using e)
  | zero =>
   simp at e
   obtain ⟨rfl, rfl⟩ := e
   refine ⟨o, rfl, fun hk => ?_, fun hk => ?_⟩
   ·subst hk
    dsimp only at h1
    split at h1
    ·rename_i j hj; cases h1; exact ⟨_, _, rfl, kN hj, .inl rfl⟩
    ·rename_i j hj; cases h1; exact ⟨_, _, rfl, kN hj, .inr rfl⟩
    ·cases h1
   ·cases q <;> first | exact absurd rfl hk | (dsimp only at h1; cases h1; rfl))
theorem Ei {env : Env} : ∀ {names : List (Str × NameKind)} {x : Str} {k : NameKind}, names.lookup x = some k →
  (names.map fun (n, k) => if (k == NameKind.free && env.scope.kind == .function && env.kindOf n == some .cell) then (n, NameKind.cell) else (n, k)).lookup x = some (if (k == NameKind.free && env.scope.kind == .function && env.kindOf x == some .cell) then .cell else k) := @fun aa => @(match aa with
 | [] => @fun ξ ξ h => by simp at h
 | (n, j) :: r => @fun x k h => by
  rw [List.lookup_cons] at h
  show List.lookup x ((if (j == NameKind.free && env.scope.kind == .function && env.kindOf n == some .cell) = true then (n, NameKind.cell) else (n, j)) :: _) = _
  cases hx : x == n with
  | true =>
   rw [hx] at h
   cases h
   have : x = n := by simpa using hx
   subst this
   split <;> rw [List.lookup_cons, beq_self_eq_true]
  | false =>
   rw [hx] at h
   have ih := Ei (env := env) h
   split <;> rw [List.lookup_cons, hx] <;> exact ih)
section
variable {c : Cx} {nm : Nm} {X : aT} {fa : List (Option Addr)} {σ σ' σ1 σ2 bf bX : ae} {env : Env} {vars vars' bG : af} {A : Around} {F F' F0 : FM} {ρ ao bD : List (List Addr)} {s s' : Shared} {fl : aI}
inductive m8 (nm : Nm) (vars : af) (aq : List (Option Nat)) (i : Nat) (x : Str) (d : D) : Prop
 | cell (j : Nat) (h1 : aq[i]? = some (some j)) (h2 : nm[j]? = some (x, .cell)) (h : vars[j]? = some (some d))
 | free (j : Nat) (h1 : aq[i]? = some (some j)) (h2 : nm[j]? = some (x, .free)) (h : vars[j]? = some (some d))
theorem A3 {inner : Nm} {aq : List (Option Nat)} {i : Nat} {x : Str} (cD : dN nm inner = some aq) (dc : dD vars aq = true) (e : inner[i]? = some (x, .free)) : ∃ d, m8 nm vars aq i x d := by
 obtain ⟨o, h1, h2, _⟩ := (qk cD).2 i x _ e
 obtain ⟨j, k', rfl, h3, h4⟩ := h2 rfl
 have hj : (vars[j]?.join).isSome = true := List.all_eq_true.mp dc (some j) (List.mem_of_getElem? h1)
 obtain ⟨d, hd⟩ := Option.isSome_iff_exists.mp hj
 have hd := Option.join_eq_some_iff.mp hd
 rcases h4 with rfl | rfl
 ·exact ⟨d, .cell j h1 h3 hd⟩
 ·exact ⟨d, .free j h1 h3 hd⟩
theorem A4 {aq : List (Option Nat)} {i : Nat} {o : Option Nat} (h : aq[i]? = some o) : (cP vars aq)[i]? = some (o.bind fun j => vars[j]?.join) := by
 unfold cP
 rw [List.getElem?_map, h]; rfl
theorem AZ {inner : Nm} {aq : List (Option Nat)} {i : Nat} {x : Str} {d : D} (cD : dN nm inner = some aq) (dc : dD vars aq = true) (e : inner[i]? = some (x, .free)) (hc : (cP vars aq)[i]? = some (some d)) : m8 nm vars aq i x d := by
 obtain ⟨d', h⟩ := A3 cD dc e
 have : d' = d := by
  have f : ∀ {j : Nat}, aq[i]? = some (some j) → vars[j]? = some (some d') → d' = d := fun h1 h =>
   Option.some.inj (Option.some.inj (h.symm.trans (Option.join_eq_some_iff.mp (Option.some.inj ((A4 h1).symm.trans hc)))))
  cases h with
  | cell j h1 _ h => exact f h1 h
  | free j h1 _ h => exact f h1 h
 exact this ▸ h
theorem vv {inner : Nm} {aq : List (Option Nat)} {i : Nat} {x : Str} {k : NameKind} {d : D} (cD : dN nm inner = some aq) (e : inner[i]? = some (x, k)) (hk : k ≠ .free) (hc : (cP vars aq)[i]? = some (some d)) : False := by
 obtain ⟨o, h1, _, h3⟩ := (qk cD).2 i x k e
 cases h3 hk
 exact nomatch (A4 h1).symm.trans hc
theorem m8.vC {aq : List (Option Nat)} {i : Nat} {x : Str} {d : D} (h : m8 nm vars aq i x d) (w : W c nm X env fa F ρ vars σ s) : ∃ a, env.cells.lookup x = some a := by
 cases h with
 | cell j _ h2 => obtain ⟨a, _, e, _⟩ := w.f.cell j x h2; exact ⟨a, e⟩
 | free j _ h2 h => obtain ⟨a, _, _, e, _⟩ := w.f.free j x d h2 h; exact ⟨a, e⟩
theorem m8.val {aq : List (Option Nat)} {i : Nat} {x : Str} {d : D} {a : Addr} {h1 : Heap} (h : m8 nm vars aq i x d) (w : W c nm X env fa F ρ vars σ s) (hk : ∀ b o, s.heap.get? b = some o → h1.get? b = some o) (ha : env.cells.lookup x = some a) :
  ∃ o v, hid (gB fa) X h1 a = some o ∧ o.data = .cell (some v) ∧ Rv c.C F ρ v d := by
 cases h with
 | cell j _ h2 h =>
  obtain ⟨b, _, e1, e2, ⟨o, e3, e4⟩, e5⟩ := w.f.cell j x h2
  cases ha.symm.trans e1
  obtain ⟨v, rfl, rv⟩ := e5 d h
  exact ⟨o, v, (gq ⟨j + 1, e2⟩).trans (hk a o e3), e4, rv⟩
 | free j _ h2 h =>
  obtain ⟨b, o, v, e1, e2, e3, rv⟩ := w.f.free j x d h2 h
  cases ha.symm.trans e1
  exact ⟨o, v, (dU fun ⟨j', hj⟩ => nomatch e2.symm.trans (w.g.own (.fr j') a trivial (bV.mpr hj)).2.1).trans e2, e3, rv⟩
theorem W.Cn {h1 : Heap} {a : Addr} (w : W c nm X env fa F ρ vars σ s) (jf : s.heap.objs.size ≤ a) (ex : ∃ o, h1.get? a = some o) : F.o a = none ∧ hid (gB fa) X h1 a = none ∧ (∀ t, cK σ t → a ∉ bE [] ρ t) ∧ ∃ o, h1.get? a = some o := by
 obtain ⟨f1, f2, f3⟩ := w.g.fresh (gV jf)
 refine ⟨f1, (dU fun ⟨j, hj⟩ => f3 (.fr j) trivial (bV.mpr hj)).trans f2, fun t ht hm => ?_, ex⟩
 cases t with
 | fr j => cases j <;> exact nomatch hm
 | loc l => exact f3 (.loc l) ht hm
theorem ER {nm : Nm} {n : Nat} {x : Str} {acc : List (Str × Addr)} (nd : (nm.map (·.1)).Nodup) {i : Nat} (hi : nm[i]? = some (x, .cell)) : ∃ a, (cellsFrom n nm acc).lookup x = some a ∧ (x, a) ∈ cellsFrom n nm [] := by
 obtain ⟨a, ha⟩ := Option.isSome_iff_exists.mp (cellsFrom_some nm n [] (x := x) (.inl (iT nd hi)))
 refine ⟨a, ?_, mem_of_lookup ha⟩
 rw [pB, ya, ha]; rfl
theorem vG {inner : Scope} {aq : List (Option Nat)} (dh : fG inner = true) (cD : dN nm inner.names = some aq) (dc : dD vars aq = true) (w : W c nm X env fa F ρ vars σ s) :
  closureFor inner env = pure (dw env inner.names []) ∧
  (let C := s.heap.objs.size
   let cells := cellsFrom (s.heap.objs.size + 1) inner.names (dw env inner.names [])
   let s4 : Shared := { s with heap := pushCells (s.heap.push { cls := .type "dict", data := .dict #[] }) inner.names }
   let bJ : Env := { newEnv inner C env.globals cells env.qual none .none (some env) builtinsNs with scope := relabel inner env }
   Kp s s4 ∧ W c inner.names (hid (gB fa) X s4.heap) bJ (fS inner.names C cells) F ρ (cP vars aq) σ s4 ∧ ∀ (i : Nat) a, (fS inner.names C cells)[i]? = some (some a) → s.heap.objs.size ≤ a) := by
 simp only [fG, Bool.and_eq_true, beq_iff_eq, decide_eq_true_eq] at dh
 obtain ⟨⟨wV, kC⟩, hglob⟩ := dh
 refine ⟨IG fun x hx => ?_, ?_⟩
 ·obtain ⟨i, hi, e⟩ := List.mem_iff_getElem.mp hx
  obtain ⟨d, h⟩ := A3 cD dc (List.getElem?_eq_some_iff.mpr ⟨hi, e⟩)
  exact h.vC w
 intro C cells s4 bJ
 have ok := cellsFrom_ok inner.names (s.heap.push { cls := .type "dict", data := .dict #[] }) (s.heap.objs.size + 1) [] ⟨fun ξ ξ hm => (nomatch hm), List.Pairwise.nil⟩ (by rw [Heap.size_push]; exact Nat.le_refl _)
 rw [Heap.size_push] at ok
 have hk : ∀ b o, s.heap.get? b = some o → s4.heap.get? b = some o := fun b o e => pushCells_keeps _ _ b o (Heap.get?_push_of_some _ e)
 have kp : Kp s s4 := Kp.mk' (tk := s.toks) hk (Nat.le_refl _)
 have own : ∀ (i : Nat) (x : Str) (a : Addr), inner.names[i]? = some (x, .cell) → cells.lookup x = some a → (x, a) ∈ cellsFrom (s.heap.objs.size + 1) inner.names [] := fun i x a hi e => by
  obtain ⟨b, h1, h2⟩ := ER (n := s.heap.objs.size + 1) (acc := dw env inner.names []) kC hi
  cases (h1 : cells.lookup x = some b).symm.trans e
  exact h2
 have hC : s4.heap.Ns C (fun ξ => none) := (Heap.Ns.new s.heap (.type "dict")).keeps (pushCells_keeps _ _)
 have above : ∀ (i : Nat) a, (fS inner.names C cells)[i]? = some (some a) → s.heap.objs.size ≤ a
  | 0, a, e => Nat.le_of_eq (Option.some.inj (Option.some.inj e))
  | i + 1, a, e => by
   obtain ⟨x, e1, e2⟩ := jK e
   exact Nat.le_of_succ_le (ok.empty x a (own i x a e1 e2)).2
 have ex : ∀ (i : Nat) a, (fS inner.names C cells)[i]? = some (some a) → ∃ o, s4.heap.get? a = some o
  | 0, a, e => by
   obtain ⟨o, _, _, q, _⟩ := hC
   exact ⟨o, Option.some.inj (Option.some.inj e) ▸ q⟩
  | i + 1, a, e => by
   obtain ⟨x, e1, e2⟩ := jK e
   obtain ⟨o, e, _⟩ := (ok.empty x a (own i x a e1 e2)).1
   exact ⟨o, e⟩
 refine ⟨kp, ⟨G.yl (w.keep kp).g.CM (fun i a e => w.Cn (above i a e) (ex i a e)) (Cm kC (fun i x a e1 e2 => (ok.empty x a (own i x a e1 e2)).2) fun i j x z a e1 e3 e2 e4 => name_of_addr ok.apart (own i x a e1 e2) (own j z a e3 e4)), ?_⟩, above⟩
 refine { kindF := wV, glob := w.f.glob, bi := w.f.bi, nd := kC, len := by rw [cP, List.length_map, (qk cD).1], l0 := lR, kinds := fun x k hx => ?_, ns := ⟨_, hC, fun i x d e hc => (vv cD e (by decide) hc).elim⟩, cell := fun i x e => ?_, free := fun i x d e hc => ?_ }
 ·have KU : bJ.kindOf x = _ := Ei (env := env) hx
  rw [KU]
  refine ⟨fun hf => ?_, fun bH => ?_⟩
  ·subst hf
   exact n9 (G := fun r => some r = some NameKind.cell ∨ some r = some NameKind.free) (fun ξ => .inl rfl) fun ξ => .inr rfl
  ·exact congrArg some (if_neg fun h => bH (beq_iff_eq.mp (Bool.and_eq_true_iff.mp (Bool.and_eq_true_iff.mp h).1).1))
 ·obtain ⟨a, ha, hm⟩ := ER (n := s.heap.objs.size + 1) (acc := dw env inner.names []) kC e
  exact ⟨a, none, ha, Ck e ha, (ok.empty x a hm).1, fun d hd => (vv cD e (by decide) hd).elim⟩
 ·have h := AZ cD dc e hc
  obtain ⟨a, ha⟩ := h.vC w
  obtain ⟨o, v, h1, h2, h3⟩ := h.val w hk ha
  refine ⟨a, o, v, ?_, h1, h2, h3⟩
  have wZ : (cellsFrom (s.heap.objs.size + 1) inner.names []).lookup x = none := by
   refine Eh fun b hb => ?_
   rcases vy hb with hm | hm
   ·obtain ⟨i', gp, e'⟩ := List.mem_iff_getElem.mp hm
    have Bo : inner.names[i']? = some (x, .cell) := List.getElem?_eq_some_iff.mpr ⟨gp, e'⟩
    exact ow e Bo (by decide) (qw kC e Bo)
   ·cases hm
  show (cellsFrom (s.heap.objs.size + 1) inner.names (dw env inner.names [])).lookup x = some a
  rw [pB, ya, wZ]
  exact rT ha kC (List.mem_of_getElem? e)
end
end Ev
end
section
namespace Ev
open PySem PySem.W PySem.Calls PyProof.Rows PySem.SeqAt
section
variable {c : Cx} {nm : Nm} {X : aT} {fa : List (Option Addr)} {σ σ' σ1 σ2 bf bX : ae} {env : Env} {vars vars' bG : af} {A : Around} {F F' F0 : FM} {ρ ao bD : List (List Addr)} {s s' : Shared} {fl : aI}
theorem J5 {bS : List (Option Addr)} {h : Heap} {own : List Addr} {C : Addr} (above : ∀ (i : Nat) a, bS[i]? = some (some a) → C ≤ a) (hb : ∀ b ∈ own, b < C ∧ F.o b = none ∧ X b = none ∧ ∀ t, cK σ t → b ∉ bE fa ρ t) : b7 F (hid (gB fa) X h) bS ρ σ own := fun b m => by
 obtain ⟨aZ, f1, f2, f3⟩ := hb b m
 refine ⟨f1, (dU fun ⟨j, hj⟩ => f3 (.fr j) trivial (bV.mpr hj)).trans f2, fun t ht hm => ?_⟩
 cases t with
 | loc l => exact f3 (.loc l) ht hm
 | fr i => exact absurd (above i b (bV.mp hm)) (Nat.not_le.mpr aZ)
theorem Bd {use : Option (Value → Sem Unit)} {elt t iter : Expr} {ifs : List Expr} {scope : Scope} {pos pos' : Pos} {T : Ev.T} {aq : List (Option Nat)} {ds rs : List D} {dj : af → ae → Option (Bool × ae)} {el : af → ae → Option (D × ae)}
  {Q : Value → Shared → Prop} {Ex : Value → Shared → Prop} (hh : A.handled = none)
  (dh : fG scope = true) (cD : dN nm scope.names = some aq) (ht : b9 scope.names T t = true) (pZ : ∀ x, foldedSetIterable iter env x = pure x)
  (hi : eI c nm X env fa A t iter vars σ ds σ1) (dc : dD vars aq = true) (hlen : ds.length ≤ az)
  (jQ : ∀ bJ bS X' vars σ b σ', dj vars σ = some (b, σ') → bN c scope.names X' bJ bS A (forIn ifs true fun c r => if r = true then do let ok ← isTrue c bJ (eval c bJ); pure (ForInStep.yield ok) else pure (ForInStep.yield r)) vars σ b σ')
  (jN : ∀ bJ bS X' vars σ d σ', el vars σ = some (d, σ') → aA c scope.names X' bJ bS A (eval elt bJ) vars σ d σ')
  (e : d8 (fq T dj el) ds (cP vars aq) σ1 = some (rs, σ'))
  (w : W c nm X env fa F ρ vars σ s)
  (fin : ∀ F' ao Da C m s', aG F F' → ρ <+: ao → W c nm X env fa F' ao vars σ' s' → Rv c.C F' ao (.ref Da) (.lst rs) → b7 F' X fa ao σ' [C] → s'.heap.Ns C m → compPost (model c.prog c.w) A Ex use Q (.ref Da) C (.ok .next) s') :
  wpAny (model c.prog c.w) A (comprehension (.ListComp elt [⟨t, iter, ifs, 0⟩] scope pos) scope env pos' (newList []) false (eval iter env) use) Q Ex s := by
 have wV : scope.kind = .function := by simp only [fG, Bool.and_eq_true, beq_iff_eq] at dh; exact dh.1.1
 have kC : (scope.names.map (·.1)).Nodup := by simp only [fG, Bool.and_eq_true, decide_eq_true_eq] at dh; exact dh.1.2
 have Ks := (vG dh cD dc w).1
 refine wpAny_comprehension_free (g := ⟨t, iter, ifs, 0⟩) (gs := []) rfl pZ Ks wV (fun x hx hl => ?_) ?_
 ·obtain ⟨i, gp, e'⟩ := List.mem_iff_getElem.mp hx
  have : scope.names[i]? = some (x.1, .local) := by rw [List.getElem?_eq_getElem gp, e', ← hl]
  exact iT kC this
 refine hi F ρ s _ Ex w fun F1 aB I fp own St s2 l1 p1 w2 it st hg => ?_
 refine wpAny_newObj_type ?_ (by show ([] : List Value).length ≤ _; exact Nat.zero_le _)
 have Kd := none_at_size s2.heap
 have wF := w2.g.fresh Kd
 have w3 := w2.keep (.push (o := { cls := .type "list", data := .seq ([] : List Value).toArray }))
 have Kc : ({ s2 with heap := s2.heap.push { cls := .type "list", data := .seq ([] : List Value).toArray } } : Shared).heap.get? s2.heap.objs.size = some { cls := .type "list", data := .seq ([] : List Value).toArray 0 } := Heap.get?_push_size _ rfl
 have Le : ({ s2 with heap := s2.heap.push { cls := .type "list", data := .seq ([] : List Value).toArray } } : Shared).heap.objs.size = s2.heap.objs.size + 1 := Heap.size_push ..
 have gE : St 0 ({ s2 with heap := s2.heap.push { cls := .type "list", data := .seq ([] : List Value).toArray } } : Shared).heap := it.frame _ _ _ st fun b ξ o e => Heap.get?_push_of_some _ e
 have Ed : ∀ b ∈ own, b < s2.heap.objs.size := fun b hb => by obtain ⟨o, e, _⟩ := it.live _ _ st b hb; exact Heap.lt_size e
 have jL : s2.heap.objs.size ∉ own := fun h => absurd (Ed _ h) (Nat.lt_irrefl _)
 generalize Lb : ({ s2 with heap := s2.heap.push { cls := .type "list", data := .seq ([] : List Value).toArray } } : Shared) = s3 at *
 have Rl : ({ s2 with heap := s2.heap.push { cls := .type "list", dict := none, data := .seq ([] : List Value).toArray, slots := #[] } } : Shared) = s3 := Lb
 show wpAny _ _ _ _ _ _
 refine NS ?_
 obtain ⟨kp, wi, above⟩ := (vG dh cD dc w3).2
 have w4 := w3.keep kp
 generalize J8 : s3.heap.objs.size = C at *
 generalize Rh : cellsFrom (C + 1) scope.names (dw env scope.names []) = cells at *
 generalize Rm : ({ s3 with heap := pushCells (s3.heap.push { cls := .type "dict", data := .dict #[] }) scope.names } : Shared) = s4 at *
 have wG : s2.heap.objs.size < C := by rw [Le]; exact Nat.lt_succ_self _
 have CB := w3.g.fresh (gV (h := s3.heap) (a := C) (by rw [J8]; exact Nat.le_refl _))
 have guard : b7 F1 (hid (gB fa) X s4.heap) (fS scope.names C cells) aB σ1 (s2.heap.objs.size :: own) :=
  J5 above (List.forall_mem_cons.mpr ⟨⟨wG, wF⟩, fun b hb => ⟨Nat.lt_trans (Ed b hb) wG, hg b hb⟩⟩)
 have Gs : St 0 s4.heap := it.frame _ _ _ gE fun b ξ o e => kp.heap b o e
 have loop : codeAny (model c.prog c.w) A (.compLoop (.ListComp elt [⟨t, iter, ifs, 0⟩] scope pos) 0 (.ref I) (.ref s2.heap.objs.size) { newEnv scope C env.globals cells env.qual none .none (some env) builtinsNs with scope := relabel scope env })
   (compPost (model c.prog c.w) A Ex use Q (.ref s2.heap.objs.size) C) s4 := by
  refine IQ hh ht it jL hlen (fun X' vars σ b σ' h => jQ _ _ X' vars σ b σ' h) (fun X' vars σ d σ' h => jN _ _ X' vars σ d σ' h) wi guard Gs (kp.heap _ _ Kc) e fun F5 gI Rq s5 ws n l5 p5 w5 CK Ka LC => ?_
  obtain ⟨g6, k6⟩ := w4.g.GW w5.g
  have f6 : cT c nm F5 X gI env fa vars s5.heap := w4.f.to l5 p5 fun i a o gp e' => k6 a o ⟨i, gp⟩ e'
  have w6 : W c nm X env fa F5 gI vars σ' s5 := ⟨g6, f6⟩
  have CC := (CK s2.heap.objs.size (by simp)).1
  have J' := (CK s2.heap.objs.size (by simp)).2.2
  have Ke : ∀ t, cK σ' t → s2.heap.objs.size ∉ bE fa gI t := fun t ht hm => by
   cases t with
   | loc l => exact J' (.loc l) ht hm
   | fr i => exact wF.2.2 (.fr i) trivial (bV.mpr (bV.mp hm))
  have xV := g9 (o := { cls := .type "list", data := .seq ws.toArray n }) CC
  have w7 := w6.iu (g6.gn Ka CC wF.2.1 Ke) xV (List.prefix_refl _)
  obtain ⟨m, bB, _⟩ := w5.f.ns
  have J9 := w5.g.own (.fr 0) C trivial (bV.mpr lR)
  have KI : b7 (jt F5 s2.heap.objs.size { cls := .type "list", data := .seq ws.toArray n }) X fa gI σ' [C] := fun b hb => by
   have lV : b = C := by simpa using hb
   rw [lV]
   refine ⟨?_, CB.2.1, fun t ht hm => ?_⟩
   ·show upd F5.o _ _ C = none
    rw [lj (Nat.ne_of_gt wG)]; exact J9.1
   ·cases t with
    | fr i => exact CB.2.2 (.fr i) trivial (bV.mpr (bV.mp hm))
    | loc l =>
     have := w5.g.apart (.loc l) (.fr 0) C ht trivial hm (bV.mpr lR)
     cases this
  exact fin _ gI _ C m s5 ((l1.trans l5).trans xV) (p1.trans p5) w7 (.lst gH rfl rfl (LC.mono xV (List.prefix_refl _))) KI bB
 exact codeAny_compStart_list loop (it.self 0 s4 _ _ Gs loop)
theorem aA.comp {elt t iter : Expr} {ifs : List Expr} {scope : Scope} {pos : Pos} {T : Ev.T} {aq : List (Option Nat)} {ds rs : List D} {dj : af → ae → Option (Bool × ae)} {el : af → ae → Option (D × ae)} (hh : A.handled = none)
  (dh : fG scope = true) (cD : dN nm scope.names = some aq) (ht : b9 scope.names T t = true) (pZ : ∀ x, foldedSetIterable iter env x = pure x)
  (hi : eI c nm X env fa A t iter vars σ ds σ1) (dc : dD vars aq = true) (hlen : ds.length ≤ az)
  (jQ : ∀ bJ bS X' vars σ b σ', dj vars σ = some (b, σ') → bN c scope.names X' bJ bS A (forIn ifs true fun c r => if r = true then do let ok ← isTrue c bJ (eval c bJ); pure (ForInStep.yield ok) else pure (ForInStep.yield r)) vars σ b σ')
  (jN : ∀ bJ bS X' vars σ d σ', el vars σ = some (d, σ') → aA c scope.names X' bJ bS A (eval elt bJ) vars σ d σ')
  (e : d8 (fq T dj el) ds (cP vars aq) σ1 = some (rs, σ')) :
  aA c nm X env fa A (eval (.ListComp elt [⟨t, iter, ifs, 0⟩] scope pos) env) vars σ (.lst rs) σ' := by
 intro F ρ s Q Ex w post
 rw [eval_ListComp]
 refine Bd hh dh cD ht pZ hi dc hlen jQ jN e w fun F' ao Da C m s' le hp w' r hg hn => ?_
 exact ⟨m, hn, fun h' hs => post F' ao _ _ le hp (w'.jk (own := [C]) hg (fun b o hb e => (hs.2 b (by simpa using hb)).trans e) rfl rfl (Nat.le_refl _)) r⟩
theorem oV.comp {elt t iter : Expr} {ifs : List Expr} {scope : Scope} {pos : Pos} {T : Ev.T} {aq : List (Option Nat)} {ds rs : List D} {dj : af → ae → Option (Bool × ae)} {el : af → ae → Option (D × ae)} (hh : A.handled = none)
  (dh : fG scope = true) (cD : dN nm scope.names = some aq) (ht : b9 scope.names T t = true) (pZ : ∀ x, foldedSetIterable iter env x = pure x)
  (hi : eI c nm X env fa A t iter vars σ ds σ1) (dc : dD vars aq = true) (hlen : ds.length ≤ az)
  (jQ : ∀ bJ bS X' vars σ b σ', dj vars σ = some (b, σ') → bN c scope.names X' bJ bS A (forIn ifs true fun c r => if r = true then do let ok ← isTrue c bJ (eval c bJ); pure (ForInStep.yield ok) else pure (ForInStep.yield r)) vars σ b σ')
  (jN : ∀ bJ bS X' vars σ d σ', el vars σ = some (d, σ') → aA c scope.names X' bJ bS A (eval elt bJ) vars σ d σ')
  (e : d8 (fq T dj el) ds (cP vars aq) σ1 = some (rs, σ')) :
  oV c nm X env fa A (.ListComp elt [⟨t, iter, ifs, 0⟩] scope pos) vars σ (.lst rs) σ' := by
 intro F ρ s u vars' Q Ex w hu post
 show wpAny _ _ (comprehension (.ListComp elt [⟨t, iter, ifs, 0⟩] scope pos) scope env (firstIterPos [⟨t, iter, ifs, 0⟩] pos) (newList []) false (eval iter env) (some u) >>= fun ξ => pure ()) _ _ _
 refine wpAny_bind (Bd (Q := fun ξ s' => wpAny (model c.prog c.w) A (pure ()) Q Ex s') hh dh cD ht pZ hi dc hlen jQ jN e w fun F' ao Da C m s' le hp w' r hg hn => ?_)
 have hX : ∀ b ∈ [C], X b = none := fun b hb => (hg b hb).2.1
 obtain ⟨oC, es, ep, e1, e2, e3⟩ := hn
 have hl : ∀ b ∈ [C], ∃ o, s'.heap.get? b = some o ∧ ∀ w, o.data ≠ .cell w := fun b hb => by
  have lV : b = C := by simpa using hb
  rw [lV]
  exact ⟨oC, e1, fun w q => by rw [e2] at q; cases q⟩
 refine hu (hid (· ∈ [C]) X s'.heap) F' ao σ' s' (.ref Da) _ _ (w'.nQ hg) r fun s2 w2 => ?_
 obtain ⟨w3, k3, lX⟩ := w2.mT hX hl
 exact ⟨m, ⟨oC, es, ep, k3 C (by simp) _ e1, e2, e3⟩, fun h' hs => wpAny_pure (post F' ao _ le hp (w3.jk (own := [C]) lX (fun b o hb e => (hs.2 b (by simpa using hb)).trans e) rfl rfl (Nat.le_refl _)))⟩
end
end Ev
end
section
namespace Ev
open PySem PySem.W PySem.Calls PyProof.Rows PySem.SeqAt
noncomputable def yq (op : CmpOp) (x y : D) : Bool := match op with
 | .Gt => (cQ .Gt x y).getD false
 | _ => (oB (fun a b => decide (a < b)) (fun a b => Float64.cmp a b == some Ordering.lt) x y).getD false
noncomputable def ju (op : CmpOp) : Prop := op = .Gt ∨ op = .Lt
noncomputable def u6 (x y : D) : Prop := (∃ i j, x = .int i ∧ y = .int j) ∨ ∃ a d, x = .flt a ∧ y = .flt d
theorem A7 {op : CmpOp} {x y : D} {b : Bool} (ho : ju op) (hx : num x = true) (e : cQ op x y = some b) : u6 x y ∧ yq op x y = b := by
 rcases ho with rfl | rfl
 ·refine ⟨?_, by show (cQ .Gt x y).getD false = b; rw [e]; rfl⟩
  cases x with
  | int i => cases y with
   | int j => exact .inl ⟨i, j, rfl, rfl⟩
   | _ => (first | exact au e | exact ai e | exact nomatch e)
  | flt i => cases y with
   | flt j => exact .inr ⟨i, j, rfl, rfl⟩
   | _ => (first | exact au e | exact ai e | exact nomatch e)
  | _ => (first | exact au hx | exact ai hx | exact nomatch hx)
 ·have e : eu x y = some b := e
  cases x with
  | int i =>
   rw [eu] at e
   obtain ⟨j, rfl, h⟩ := Et e
   exact ⟨.inl ⟨i, j, rfl, rfl⟩, h⟩
  | flt i =>
   rw [eu] at e
   obtain ⟨j, rfl, h⟩ := Er e
   exact ⟨.inr ⟨i, j, rfl, rfl⟩, h⟩
  | _ => (first | exact au hx | exact ai hx | exact nomatch hx)
noncomputable def nh (x : D) : Prop := ∃ i, x = D.int i
noncomputable def oW (x : D) : Prop := ∃ i, x = D.flt i
noncomputable def iI (xs : List D) : Prop := (∀ x ∈ xs, nh x) ∨ ∀ x ∈ xs, oW x
theorem N6 {b : D} (h : num b = true) : nh b ∨ oW b := by
 cases b with
 | int i => exact .inl ⟨i, rfl⟩
 | flt i => exact .inr ⟨i, rfl⟩
 | _ => (first | exact au h | exact ai h | exact nomatch h)
theorem nh.EW {x : D} (a : nh x) (b : oW x) : False := by obtain ⟨i, rfl⟩ := a; obtain ⟨j, e⟩ := b; cases e
theorem iI.one {b : D} (h : num b = true) : iI [b] := (N6 h).elim (fun q => .inl fun x hx => by rw [List.mem_singleton.mp hx]; exact q) fun q => .inr fun x hx => by rw [List.mem_singleton.mp hx]; exact q
theorem iI.more {x y : D} {l : List D} (t : u6 x y ∨ u6 y x) (h : iI (x :: l)) : iI (x :: y :: l) := by
 have both : (nh x ∧ nh y) ∨ (oW x ∧ oW y) := by
  rcases t with (⟨i, j, rfl, rfl⟩ | ⟨i, j, rfl, rfl⟩) | (⟨i, j, rfl, rfl⟩ | ⟨i, j, rfl, rfl⟩)
  ·exact .inl ⟨⟨_, rfl⟩, ⟨_, rfl⟩⟩
  ·exact .inr ⟨⟨_, rfl⟩, ⟨_, rfl⟩⟩
  ·exact .inl ⟨⟨_, rfl⟩, ⟨_, rfl⟩⟩
  ·exact .inr ⟨⟨_, rfl⟩, ⟨_, rfl⟩⟩
 have out : ∀ {P : D → Prop}, P y → (∀ z ∈ x :: l, P z) → ∀ z ∈ x :: y :: l, P z := fun py h z hz => by
  rcases List.mem_cons.mp hz with rfl | hz
  ·exact h _ List.mem_cons_self
  ·rcases List.mem_cons.mp hz with rfl | hz
   ·exact py
   ·exact h z (List.mem_cons_of_mem _ hz)
 rcases h with h | h
 ·rcases both with ⟨_, b⟩ | ⟨a, _⟩
  ·exact .inl (out b h)
  ·exact ((h x List.mem_cons_self).EW a).elim
 ·rcases both with ⟨a, _⟩ | ⟨_, b⟩
  ·exact (a.EW (h x List.mem_cons_self)).elim
  ·exact .inr (out b h)
theorem iI.swap {x y : D} {l : List D} (h : iI (x :: y :: l)) : iI (y :: x :: l) := by
 have out : ∀ {P : D → Prop}, (∀ z ∈ x :: y :: l, P z) → ∀ z ∈ y :: x :: l, P z := fun h z hz => by
  rcases List.mem_cons.mp hz with rfl | hz
  ·exact h _ (List.mem_cons_of_mem _ List.mem_cons_self)
  ·rcases List.mem_cons.mp hz with rfl | hz
   ·exact h _ List.mem_cons_self
   ·exact h z (List.mem_cons_of_mem _ (List.mem_cons_of_mem _ hz))
 exact h.elim (fun h => .inl (out h)) fun h => .inr (out h)
theorem Fd {gt : D → D → Option Bool} {x b d : D} {xs : List D} (e : cL gt b (x :: xs) = some d) : ∃ r, gt x b = some r ∧ cL gt (if r then x else b) xs = some d := by
 have e' : (match gt x b with | some true => cL gt x xs | some false => cL gt b xs | none => none) = some d := e
 match hg : gt x b, e' with
 | some true, e' => exact ⟨true, rfl, e'⟩
 | some false, e' => exact ⟨false, rfl, e'⟩
theorem yG {op : CmpOp} (ho : ju op) : ∀ {xs : List D} {b d : D}, num b = true → xs.all num = true → cL (cQ op) b xs = some d → iI (b :: xs) := @fun aa => @(match aa with
 | [] => @fun b d hb ξ ξ => .one hb
 | x :: xs => @fun b d hb ha e => by
  obtain ⟨hx, ha⟩ := aj ha
  obtain ⟨r, hc, e⟩ := Fd e
  have hk := (A7 ho hx hc).1
  cases r with
  | true => exact ((yG ho hx ha e).more (.inl hk)).swap
  | false => exact (yG ho hb ha e).more (.inr hk))
noncomputable def fP (op : CmpOp) (l : List D) (i j : Nat) : Bool := match l[i]?, l[j]? with
 | some x, some y => yq op x y
 | _, _ => false
theorem AS {op : CmpOp} {l : List D} {i j : Nat} {x y : D} (h1 : l[i]? = some x) (h2 : l[j]? = some y) : fP op l i j = yq op x y := by unfold fP; rw [h1, h2]
theorem Fc {op : CmpOp} (ho : ju op) {l : List D} (hn : l.all num = true) : ∀ (zE : List D) (k : Nat) (b d : D), l.drop (k + 1) = zE → l[argBest (fP op l) k]? = some b → cL (cQ op) b zE = some d → l[argBest (fP op l) (k + zE.length)]? = some d := @fun aa => @(match aa with
 | [] => @fun k b d ξ hb e => by cases e; exact hb
 | x :: xs => @fun k b d hs hb e => by
  have hx : l[k + 1]? = some x := by rw [← List.getElem?_drop (j := 0), hs]; rfl
  have LD : l.drop (k + 1 + 1) = xs := by rw [← List.drop_drop, hs]; rfl
  obtain ⟨r, hc, e⟩ := Fd e
  have Kr : fP op l (k + 1) (argBest (fP op l) k) = r := (AS hx hb).trans (A7 ho (List.all_eq_true.mp hn x (List.mem_of_getElem? hx)) hc).2
  rw [show k + (x :: xs).length = k + 1 + xs.length from (Nat.succ_add k xs.length).symm]
  refine Fc ho hn xs (k + 1) _ d LD ?_ e
  show l[if fP op l (k + 1) (argBest (fP op l) k) = true then k + 1 else argBest (fP op l) k]? = _
  rw [Kr]
  cases r with
  | true => exact hx
  | false => exact hb)
section
variable {c : Cx} {nm : Nm} {X : aT} {fa : List (Option Addr)} {σ σ' σ1 σ2 bf bX : ae} {env : Env} {vars vars' bG : af} {A : Around} {F F' F0 : FM} {ρ ao bD : List (List Addr)} {s s' : Shared} {fl : aI}
theorem aC.at {vs : List Value} {l : List D} (hr : aC c.C F ρ vs l) {i : Nat} {v : Value} (h : vs.toArray[i]? = some v) : ∃ x, l[i]? = some x ∧ Rv c.C F ρ v x := by
 rw [List.getElem?_toArray] at h
 have aZ : i < l.length := by rw [← hr.length]; exact (List.getElem?_eq_some_iff.mp h).1
 obtain ⟨u, q1, q2⟩ := hr.get (List.getElem?_eq_getElem aZ)
 rw [h] at q1; cases q1
 exact ⟨_, List.getElem?_eq_getElem aZ, q2⟩
theorem A8 {op : CmpOp} (ho : ju op) {vs : List Value} {l : List D} (hr : aC c.C F ρ vs l) (hk : iI l) : CmpOf c.prog c.w A op (fun i v => vs.toArray[i]? = some v) (fP op l) := by
 intro i j vi vj s Q E hi hj hQ
 obtain ⟨x, e1, r1⟩ := hr.at hi
 obtain ⟨y, e2, r2⟩ := hr.at hj
 rw [AS e1 e2] at hQ
 rcases hk with hk | hk
 ·obtain ⟨a, rfl⟩ := hk x (List.mem_of_getElem? e1)
  obtain ⟨b, rfl⟩ := hk y (List.mem_of_getElem? e2)
  obtain ⟨t, rfl⟩ := r1.inv
  obtain ⟨u, rfl⟩ := r2.inv
  rcases ho with rfl | rfl
  ·exact gt_int hQ
  ·exact lt_int hQ
 ·obtain ⟨a, rfl⟩ := hk x (List.mem_of_getElem? e1)
  obtain ⟨b, rfl⟩ := hk y (List.mem_of_getElem? e2)
  obtain ⟨t, rfl, _⟩ := r1.inv
  obtain ⟨u, rfl, _⟩ := r2.inv
  rcases ho with rfl | rfl
  ·exact AutoFloatOps.gt_0 hQ
  ·exact AutoFloatOps.lt_0 hQ
theorem rN {op : CmpOp} {l : List D} {d : D} (ho : ju op) (e : bestOf op l = some d) : 0 < l.length ∧ iI l ∧ l[argBest (fP op l) (l.length - 1)]? = some d := by
 cases l with
 | nil => (first | exact au e | exact ai e | exact nomatch e)
 | cons x r =>
  obtain ⟨ha, e⟩ := bx (show (if (x :: r).all num = true then cL (cQ op) x r else none) = some d from e)
  refine ⟨Nat.succ_pos _, yG ho (aj ha).1 (aj ha).2 e, ?_⟩
  have := Fc ho (l := x :: r) ha r 0 x d rfl rfl e
  rw [Nat.zero_add] at this
  exact this
end
end Ev
end
section
namespace Ev
open PySem PySem.W PySem.Calls PyProof.Rows PySem.SeqAt
inductive fZ (c : Cx) (F : FM) (ρ : List (List Addr)) (h : Heap) : List Value → List D → Prop
 | nil : fZ c F ρ h [] []
 | cons {v : Value} {x : D} {vs : List Value} {xs : List D} (r : Rd c F ρ h v x) (rs : fZ c F ρ h vs xs) : fZ c F ρ h (v :: vs) (x :: xs)
section
variable {c : Cx} {nm : Nm} {X : aT} {fa : List (Option Addr)} {σ σ' σ1 σ2 bf bX : ae} {env : Env} {vars vars' bG : af} {A : Around} {F F' F0 : FM} {ρ ao bD : List (List Addr)} {s s' : Shared} {fl : aI}
theorem G.FD (g : G c F X fa ρ σ s) : ∀ {ds : List D} {vs : List Value} {xs : List D}, aC c.C F ρ vs ds → jq σ ds = some xs → fZ c F ρ s.heap vs xs := @fun aa => @(match aa with
 | [] => @fun vs xs h e => by
  obtain rfl := (h.inv : vs = [])
  cases e; exact .nil
 | d :: ds => @fun vs xs h e => by
  obtain ⟨v, vs, rfl, r, rs⟩ := h.inv
  exact aO (show ((res σ d).bind fun x => (jq σ ds).map (x :: ·)) = some xs from e) fun x e1 e2 => bT e2 fun ys e3 e4 => by subst e4; exact .cons (g.rd r e1) (g.FD rs e3))
theorem N7 {x : D} (hn : num x = true) : dW x = none := by cases x <;> first | rfl | (first | exact au hn | exact ai hn | exact nomatch hn)
noncomputable def Hq (c : Cx) (F : FM) (ρ : List (List Addr)) (h : Heap) (vs : List Value) : List D → Prop := @fun aa => match aa with
 | [] => vs = []
 | x :: xs => ∃ u us, vs = u :: us ∧ Rd c F ρ h u x ∧ fZ c F ρ h us xs
theorem fZ.inv {h : Heap} {vs : List Value} {xs : List D} (r : fZ c F ρ h vs xs) : Hq c F ρ h vs xs := by
 cases r with
 | nil => exact rfl
 | cons r rs => exact ⟨_, _, rfl, r, rs⟩
theorem fZ.nums {h : Heap} {vs : List Value} {xs : List D} (r : fZ c F ρ h vs xs) (hn : xs.all num = true) : aC c.C F ρ vs xs := by
 induction r with
 | nil => exact .nil
 | cons r rs ih => exact .cons (r.rv (N7 (aj hn).1)) (ih (aj hn).2)
theorem rM {op : CmpOp} {l : List D} {d : D} (e : bestOf op l = some d) : l.all num = true := by
 cases l with
 | nil => (first | exact au e | exact ai e | exact nomatch e)
 | cons x r => exact (bx (show (if (x :: r).all num = true then cL (cQ op) x r else none) = some d from e)).1
theorem AL {op : CmpOp} {l : List D} {d : D} {vs : List Value} (ho : ju op) (hs : aC c.C F ρ vs l) (e : bestOf op l = some d) {v : Value} (hv : vs.toArray[argBest (fP op l) (vs.toArray.size - 1)]? = some v) : Rv c.C F ρ v d := by
 have hv : vs.toArray[argBest (fP op l) (vs.length - 1)]? = some v := hv
 rw [hs.length] at hv
 obtain ⟨x, h1, h2⟩ := hs.at hv
 rw [(rN ho e).2.2] at h1
 cases h1; exact h2
theorem AJ {op : CmpOp} {l : List D} {d : D} {vs : List Value} (ho : ju op) (hs : aC c.C F ρ vs l) (e : bestOf op l = some d) : 0 < vs.toArray.size := by
 show 0 < vs.length
 rw [hs.length]; exact (rN ho e).1
theorem Ez {a b n : Nat} (ha : a < n) (hb : b < n) : ∀ x ∈ [a, b], x < n := fun x hx => by
 rcases List.mem_cons.mp hx with rfl | hx
 ·exact ha
 ·rw [List.mem_singleton.mp hx]; exact hb
theorem EY {a b : Nat} (h : a < b) : a ∉ [b] := fun q => Nat.ne_of_lt h (List.mem_singleton.mp q)
theorem AK {op : CmpOp} {l : List D} {d : D} {v : Value} {Q : Value → Shared → Prop} {Ex : Value → Shared → Prop} (hh : A.handled = none) (ho : ju op) (w : W c nm X env fa F ρ vars σ s) (r : Rd c F ρ s.heap v (.lst l)) (e : bestOf op l = some d)
  (h : ∀ v s', Kp s s' → Res c F ρ s s' v d → Q v s') :
  wpAny (model c.prog c.w) A.in1 (pyIter v) (fun it eU => ∃ I fp wr n P St bt, it = .ref I ∧ Walks c.prog c.w A.in1 I fp wr n P St ∧ St 0 eU.heap ∧ (∀ b ∈ fp, b < eU.heap.objs.size) ∧ 0 < n ∧ CmpOf c.prog c.w A.in1 op P bt ∧
   ∀ v h' tk, P (argBest bt (n - 1)) v → (∀ b o, b ∉ wr → eU.heap.get? b = some o → h'.get? b = some o) → s.toks ≤ tk → Q v { eU with heap := h', toks := tk }) Ex s := by
 obtain ⟨a, vs, rfl, hl, hs⟩ := w.g.list r
 have aZ : a < s.heap.objs.size := by obtain ⟨o, e, _⟩ := hl; exact Heap.lt_size e
 refine wpAny_pyIter_list hl ?_
 have h2 := (rN ho e).2.1
 refine ⟨s.heap.objs.size, _, _, vs.toArray.size, _, _, fP op l, rfl, Walks.list (A := A.in1) hh s.heap.objs.size a (Nat.ne_of_lt aZ) vs.toArray, ⟨⟨_, Heap.get?_push_size _ rfl, rfl, rfl⟩, hl.push _⟩, fun b hb => ?_, AJ ho hs e, A8 (A := A.in1) ho hs h2, fun v h' tk hv hk ht => ?_⟩
 ·rw [Heap.size_push]
  exact Ez (Nat.lt_succ_self _) (Nat.lt_succ_of_lt aZ) b hb
 ·exact h v _ (Kp.mk2 (fun b o e => hk b o (EY (Heap.lt_size e)) (Heap.get?_push_of_some _ e)) ht) (.old (AL ho hs e hv))
theorem rO {op : CmpOp} {l : List D} {d : D} {vs : List Value} {Q : Value → Shared → Prop} {Ex : Value → Shared → Prop} (hh : A.handled = none) (ho : ju op) (hs : aC c.C F ρ vs l) (e : bestOf op l = some d)
  (h : ∀ v s', Kp s s' → Res c F ρ s s' v d → Q v s') :
  wpAny (model c.prog c.w) A.in1 (pyIter (.ref s.heap.objs.size)) (fun it eU => ∃ I fp wr n P St bt, it = .ref I ∧ Walks c.prog c.w A.in1 I fp wr n P St ∧ St 0 eU.heap ∧ (∀ b ∈ fp, b < eU.heap.objs.size) ∧ 0 < n ∧ CmpOf c.prog c.w A.in1 op P bt ∧
   ∀ v h' tk, P (argBest bt (n - 1)) v → (∀ b o, b ∉ wr → eU.heap.get? b = some o → h'.get? b = some o) → s.toks ≤ tk → Q v { eU with heap := h', toks := tk }) Ex { s with heap := s.heap.push { cls := .type "tuple", data := .seq vs.toArray } } := by
 have hl : (s.heap.push { cls := .type "tuple", data := .seq vs.toArray }).IsTuple s.heap.objs.size vs.toArray := ⟨_, Heap.get?_push_size _ rfl, rfl, _, rfl⟩
 refine wpAny_pyIter_tuple (s := { s with heap := s.heap.push { cls := .type "tuple", data := .seq vs.toArray } }) hl ?_
 have h2 := (rN ho e).2.1
 have hz : ({ s with heap := s.heap.push { cls := .type "tuple", data := .seq vs.toArray } } : Shared).heap.objs.size = s.heap.objs.size + 1 := Heap.size_push ..
 have hI : ((s.heap.push { cls := .type "tuple", data := .seq vs.toArray }).push { cls := .type "tuple_iterator", data := .fields #[.ref s.heap.objs.size, .int 0 0] }).IsTupleIter (s.heap.objs.size + 1) s.heap.objs.size 0 := by
  have := Heap.get?_push_size (s.heap.push { cls := .type "tuple", data := .seq vs.toArray }) (o := { cls := .type "tuple_iterator", data := .fields #[.ref s.heap.objs.size, .int 0 0] }) rfl
  rw [Heap.size_push] at this
  exact ⟨_, this, rfl, rfl⟩
 rw [hz]
 refine ⟨s.heap.objs.size + 1, _, _, vs.toArray.size, _, _, fP op l, rfl, Walks.tuple (A := A.in1) hh (s.heap.objs.size + 1) s.heap.objs.size (Nat.ne_of_lt (Nat.lt_succ_self _)) vs.toArray, ⟨hI, hl.push _⟩, fun b hb => ?_, AJ ho hs e, A8 (A := A.in1) ho hs h2, fun v h' tk hv hk ht => ?_⟩
 ·rw [Heap.size_push, Heap.size_push]
  exact Ez (Nat.lt_succ_self _) (Nat.lt_succ_of_lt (Nat.lt_succ_self _)) b hb
 ·exact h v _ (Kp.mk2 (fun b o e => hk b o (EY (Nat.lt_succ_of_lt (Heap.lt_size e))) (Heap.get?_push_of_some _ (Heap.get?_push_of_some _ e))) ht) (.old (AL ho hs e hv))
theorem Dt : ∀ {xs : List D} {vs : List Value} {is : List Int}, aC c.C F ρ vs xs → intsOf xs = some is → AllInts vs.toArray ∧ (numsOf vs).sum = sumInts is := @fun aa ak aS bQ m7 => match aa, ak, aS, bQ, m7 with
 | [], vs, is, h, e => by
  obtain rfl := (h.inv : vs = [])
  cases e; exact ⟨fun v hv => (nomatch hv : False).elim, rfl⟩
 | .int i :: xs, vs, is, h, e => by
  obtain ⟨v, vs, rfl, r, rs⟩ := h.inv
  obtain ⟨t, rfl⟩ := r.inv
  refine bT (show (intsOf xs).map (i :: ·) = some is from e) fun r e1 e2 => ?_
  subst e2
  obtain ⟨q1, q2⟩ := Dt rs e1
  refine ⟨fun v hv => ?_, ?_⟩
  ·rcases List.mem_cons.mp (Array.mem_toArray.mp hv) with rfl | hv
   ·exact ⟨_, _, rfl⟩
   ·exact q1 v (List.mem_toArray.mpr hv)
  ·show (_ :: numsOf _).sum = _
   rw [List.sum_cons, q2]; rfl
end
end Ev
end
section
namespace Ev
open PySem PySem.W PySem.Calls PyProof.Rows PySem.SeqAt
noncomputable def j7 (c : Cx) : Prop := ∀ (nm : Nm) (X : aT) (env : Env) fa F ρ vars σ s (A : Around) (v : Value) xs d (Q : Value → Shared → Prop) Ex, A.handled = none → Good 0 A → W c nm X env fa F ρ vars σ s → Rd c F ρ s.heap v (.lst xs) → c9 .sorted [.lst xs] = some d →
 (∀ v s', Kp s s' → Res c F ρ s s' v d → Q v s') → wpAny (model c.prog c.w) A (call (.builtin "sorted") [v]) Q Ex s
section
variable {c : Cx} {nm : Nm} {X : aT} {fa : List (Option Addr)} {σ σ' σ1 σ2 bf bX : ae} {env : Env} {vars vars' bG : af} {A : Around} {F F' F0 : FM} {ρ ao bD : List (List Addr)} {s s' : Shared} {fl : aI}
theorem Kp.zJ : Kp s { s with toks := s.toks + 1 + 1 } := Kp.toks' (by lia)
theorem qz {f : D → Option D} {ds : List D} {d : D} (e : one f ds = some d) : ∃ x, ds = [x] ∧ f x = some d := by
 match ds, e with
 | [x], e => exact ⟨x, rfl, e⟩
 | [], e => (first | exact au e | exact ai e | exact nomatch e)
 | _ :: _ :: _, e => (first | exact au e | exact ai e | exact nomatch e)
theorem fZ.one {h : Heap} {vs : List Value} {x : D} (r : fZ c F ρ h vs [x]) : ∃ v, vs = [v] ∧ Rd c F ρ h v x := by
 obtain ⟨v, us, rfl, r1, rs⟩ := r.inv
 obtain rfl := (rs.inv : us = [])
 exact ⟨v, rfl, r1⟩
noncomputable def lC (c : Cx) (A : Around) (F : FM) (ρ : List (List Addr)) (s : Shared) (b : Bi) (vs : List Value) (d : D) : Prop :=
 ∀ Q Ex, (∀ v s', Kp s s' → Res c F ρ s s' v d → Q v s') → wpAny (model c.prog c.w) A (call (lG b) vs) Q Ex s
theorem wc {n : Nat} (hn : n ≤ az) : (n : Int) < 2 ^ 63 := by unfold az at hn; lia
theorem HR {x d : D} {v : Value} (w : W c nm X env fa F ρ vars σ s) (r : Rd c F ρ s.heap v x) (e : tO x = some d) : lC c A F ρ s .len [v] d := by
 intro Q Ex h
 cases x with
 | str a =>
  obtain ⟨hn, e⟩ := bx e
  cases e
  obtain ⟨t, rfl⟩ := r.str
  refine len_str (x := ⟨a.toArray⟩) (by rw [mS]; exact Int.not_le.mpr (wc hn)) ?_
  rw [mS]
  exact h _ _ .zJ (.old (.int _ _))
 | lst a =>
  obtain ⟨hn, e⟩ := bx e
  cases e
  obtain ⟨l, us, rfl, hl, hs⟩ := w.g.list r
  have hz : (List.toArray us).size = a.length := hs.length
  refine call_len_list hl (by rw [hz]; exact wc hn) ?_
  rw [hz]
  exact h _ _ .zJ (.old (.int _ _))
 | tup a =>
  obtain ⟨hn, e⟩ := bx e
  cases e
  obtain ⟨l, us, rfl, hl, hs⟩ := w.g.tuple r
  have hz : (List.toArray us).size = a.length := hs.length
  have ht : IsTup s.heap l (List.toArray us) := hl
  refine PyProof.Rows.len_tuple ht (by rw [hz]; exact wc hn) ?_
  rw [hz]
  exact h _ _ .zJ (.old (.int _ _))
 | _ => (first | exact au e | exact ai e | exact nomatch e)
theorem GU {x y : D} {vs : List Value} (h : aC c.C F ρ vs [x, y]) : ∃ v1 v2, vs = [v1, v2] := by
 obtain ⟨v1, us, rfl, _, h⟩ := h.inv
 obtain ⟨v2, us, rfl, _, h⟩ := h.inv
 obtain rfl := (h.inv : us = [])
 exact ⟨_, _, rfl⟩
theorem GJ {x y z : D} {vs : List Value} (h : aC c.C F ρ vs [x, y, z]) : ∃ v1 v2 v3, vs = [v1, v2, v3] := by
 obtain ⟨v1, us, rfl, _, h⟩ := h.inv
 obtain ⟨v2, us, rfl, _, h⟩ := h.inv
 obtain ⟨v3, us, rfl, _, h⟩ := h.inv
 obtain rfl := (h.inv : us = [])
 exact ⟨_, _, _, rfl⟩
theorem AI {op : CmpOp} {ds : List D} {d : D} (e : pq op ds = some d) : (∃ l, ds = [.lst l] ∧ bestOf op l = some d) ∨ (∃ x y, ds = [x, y] ∧ bestOf op [x, y] = some d) ∨ ∃ x y z, ds = [x, y, z] ∧ bestOf op [x, y, z] = some d := by
 match ds, e with
 | [x], e => exact aO (show (dW x).bind (bestOf op) = some d from e) fun l h1 h2 => .inl ⟨l, by rw [jl h1], h2⟩
 | [x, y], e => exact .inr (.inl ⟨x, y, rfl, e⟩)
 | [x, y, z], e => exact .inr (.inr ⟨x, y, z, rfl, e⟩)
 | [], e => (first | exact au e | exact ai e | exact nomatch e)
 | _ :: _ :: _ :: _ :: _, e => (first | exact au e | exact ai e | exact nomatch e)
theorem HS {ds : List D} {d : D} {vs : List Value} (hh : A.handled = none) (w : W c nm X env fa F ρ vars σ s) (r : fZ c F ρ s.heap vs ds) (e : pq .Gt ds = some d) : lC c A F ρ s .max vs d := by
 intro Q Ex h
 rcases AI e with ⟨l, rfl, e⟩ | ⟨x, y, rfl, e⟩ | ⟨x, y, z, rfl, e⟩
 ·obtain ⟨v, rfl, r1⟩ := r.one
  exact wpAny_with_toks (n := s.toks) (Nat.le_refl _) (call_max_walk (wpAny_mono (AK hh (.inl rfl) w r1 e h) (fun it s2 h => h) fun ξ ξ e ξ => e))
 ·have hs := r.nums (rM e)
  obtain ⟨v1, v2, rfl⟩ := GU hs
  exact wpAny_with_toks (n := s.toks) (Nat.le_refl _) (call_max_two (wpAny_mono (rO hh (.inl rfl) hs e h) (fun it s2 h => h) fun ξ ξ e ξ => e))
 ·have hs := r.nums (rM e)
  obtain ⟨v1, v2, v3, rfl⟩ := GJ hs
  exact wpAny_with_toks (n := s.toks) (Nat.le_refl _) (call_max_three (wpAny_mono (rO hh (.inl rfl) hs e h) (fun it s2 h => h) fun ξ ξ e ξ => e))
theorem HT {ds : List D} {d : D} {vs : List Value} (hh : A.handled = none) (w : W c nm X env fa F ρ vars σ s) (r : fZ c F ρ s.heap vs ds) (e : pq .Lt ds = some d) : lC c A F ρ s .min vs d := by
 intro Q Ex h
 rcases AI e with ⟨l, rfl, e⟩ | ⟨x, y, rfl, e⟩ | ⟨x, y, z, rfl, e⟩
 ·obtain ⟨v, rfl, r1⟩ := r.one
  exact wpAny_with_toks (n := s.toks) (Nat.le_refl _) (call_min_walk (wpAny_mono (AK hh (.inr rfl) w r1 e h) (fun it s2 h => h) fun ξ ξ e ξ => e))
 ·have hs := r.nums (rM e)
  obtain ⟨v1, v2, rfl⟩ := GU hs
  exact wpAny_with_toks (n := s.toks) (Nat.le_refl _) (call_min_two (wpAny_mono (rO hh (.inr rfl) hs e h) (fun it s2 h => h) fun ξ ξ e ξ => e))
 ·have hs := r.nums (rM e)
  obtain ⟨v1, v2, v3, rfl⟩ := GJ hs
  exact wpAny_with_toks (n := s.toks) (Nat.le_refl _) (call_min_three (wpAny_mono (rO hh (.inr rfl) hs e h) (fun it s2 h => h) fun ξ ξ e ξ => e))
theorem O9 {x : UInt64} {i : Int} (e : fh x = some i) : ∃ sg m ex, Float64.decode x = .fin sg m ex ∧ i = Float64.nearestOf sg m ex := by
 unfold fh at e
 match hd : Float64.decode x, e with
 | .fin sg m ex, e => exact ⟨sg, m, ex, rfl, (Option.some.inj e).symm⟩
theorem HU {x d : D} {v : Value} (r : Rd c F ρ s.heap v x) (e : ((wg x).bind fun a => (fh a).map D.int) = some d) : lC c A F ρ s .round [v] d := by
 intro Q Ex h
 refine aO e fun a h1 h2 => bT h2 fun i h3 h4 => ?_
 subst h4
 rw [JH h1] at r
 obtain ⟨t, rfl⟩ := r.flt
 obtain ⟨sg, m, ex, hd, rfl⟩ := O9 h3
 refine PySem.Flt.round_via1 (call_gives PySem.F.slot_float_round (PySem.typeIs_float _ _ _) PySem.F.entry_float_round (PySem.F.args_float_round_1 _) (PySem.Flt.gives_round _ hd) ?_)
 exact h _ _ .tok (.old (.int _ _))
theorem HV {x d : D} {v : Value} (hh : A.handled = none) (w : W c nm X env fa F ρ vars σ s) (r : Rd c F ρ s.heap v x) (e : ((dW x).bind fun xs => (intsOf xs).map fun is => D.int (sumInts is)) = some d) : lC c A F ρ s .sum [v] d := by
 intro Q Ex h
 refine aO e fun xs h1 h2 => bT h2 fun is e1 h4 => ?_
 subst h4
 rw [jl h1] at r
 obtain ⟨l, us, rfl, hl, hs⟩ := w.g.list r
 obtain ⟨q1, q2⟩ := Dt hs e1
 obtain ⟨ps, CW⟩ := q1.items
 rw [CW] at hl
 refine wpAny_with_toks (n := s.toks) (Nat.le_refl _) (PySem.sum_intListG hh hl fun h' tk t' hk ht => ?_)
 have : preSum (numAt ps) ps.size = sumInts is := by
  rw [preSum_eq, List.take_of_length_le (by simp), ← nums_intItems, ← CW, ← q2]
 rw [this]
 exact h _ _ (Kp.mk2 hk ht) (.old (.int _ _))
theorem HW {x d : D} {v : Value} (w : W c nm X env fa F ρ vars σ s) (r : Rd c F ρ s.heap v x) (e : ((dW x).bind fun xs => if xs.length ≤ az then some (D.tup xs) else none) = some d) : lC c A F ρ s .tuple [v] d := by
 intro Q Ex h
 refine aO e fun xs h1 h2 => ?_
 obtain ⟨hn, h2⟩ := bx h2
 cases h2
 rw [jl h1] at r
 obtain ⟨l, us, rfl, hl, hs⟩ := w.g.list r
 refine call_tuple_list hl (fun h' hk => ?_) (by rw [List.size_toArray, hs.length]; exact iW hn)
 have K3 : s.heap.get? h'.objs.size = none := by
  cases q : s.heap.get? h'.objs.size with
  | none => rfl
  | some o => exact absurd (Heap.lt_size (hk _ o q)) (Nat.lt_irrefl _)
 exact h _ _ (Kp.mk2 (tk := s.toks) (fun b o e => Heap.get?_push_of_some _ (hk b o e)) (Nat.le_refl _)) (.tup (vs := us) (n := 0) K3 (Heap.get?_push_size _ rfl) rfl rfl hs)
theorem HP {b : Bi} {ds : List D} {d : D} {vs : List Value} (hh : A.handled = none) (gd : Good 0 A) (xo : b = .sorted → j7 c) (w : W c nm X env fa F ρ vars σ s) (r : fZ c F ρ s.heap vs ds) (e : c9 b ds = some d) : lC c A F ρ s b vs d := by
 cases b with
 | len => obtain ⟨x, rfl, e⟩ := qz e; obtain ⟨v, rfl, r1⟩ := r.one; exact HR w r1 e
 | max => exact HS hh w r e
 | min => exact HT hh w r e
 | round => obtain ⟨x, rfl, e⟩ := qz e; obtain ⟨v, rfl, r1⟩ := r.one; exact HU r1 e
 | sum => obtain ⟨x, rfl, e⟩ := qz e; obtain ⟨v, rfl, r1⟩ := r.one; exact HV hh w r1 e
 | sorted =>
  have e0 := e
  obtain ⟨x, rfl, e⟩ := qz e
  obtain ⟨v, rfl, r1⟩ := r.one
  refine aO e fun xs h1 ξ => ?_
  rw [jl h1] at r1 e0
  exact fun Q Ex h => xo rfl nm X env fa F ρ vars σ s A v _ d Q Ex hh gd w r1 e0 h
 | tuple => obtain ⟨x, rfl, e⟩ := qz e; obtain ⟨v, rfl, r1⟩ := r.one; exact HW w r1 e
 | _ => (first | exact au e | exact ai e | exact nomatch e)
theorem HQ : ∀ b, ∃ T, lG b = .type T ∨ lG b = .builtin T := by
 intro b; cases b <;> first | exact ⟨_, .inl rfl⟩ | exact ⟨_, .inr rfl⟩
theorem aA.bi {x : Str} {b : Bi} {p pos : Pos} {args : List Expr} {ds xs : List D} {d : D} (hh : A.handled = none) (gd : Good 0 A) (Z : cG c) (N : lB c) (xo : b = .sorted → j7 c) (hx : cu nm x = true) (hb : x = cU b)
  (bB : (starEach args env).all (!·.1) = true) (ha : cy c nm X env fa A (spliced (backTo pos (starEach args env))) vars σ ds σ1) (er : jq σ1 ds = some xs) (e : c9 b xs = some d) :
  aA c nm X env fa A (eval (.Call (.Name x p) args [] pos) env) vars σ d σ1 := by
 intro F ρ s Q Ex w post
 obtain ⟨T, hT⟩ := HQ b
 refine rP (T := T) Z N hx hb hT bB ha w fun F1 aB vs s1 l1 p1 w1 r1 => ?_
 refine HP hh gd xo w1 (w1.g.FD r1 er) e _ _ fun v s2 k r => ?_
 obtain ⟨F2, l2, w2, r2⟩ := w1.res k r
 exact post F2 aB v s2 (l1.trans l2) p1 w2 r2
theorem D4 (sep : Array Nat) : ∀ (r : List Str) (c x : Array Nat), r.foldl (fun (acc : Array Nat) (p : Str) => acc ++ sep ++ p.cps) (c ++ x) = c ++ r.foldl (fun (acc : Array Nat) (p : Str) => acc ++ sep ++ p.cps) x := @fun aa => @(match aa with
 | [] => @fun c x => rfl
 | p :: r => @fun c x => by
  simp only [List.foldl_cons]
  rw [← D4 sep r c (x ++ sep ++ p.cps)]
  simp [Array.append_assoc])
theorem join_cons (sep a b : Str) (r : List Str) : Txt.join sep (a :: b :: r) = ⟨a.cps ++ sep.cps ++ (Txt.join sep (b :: r)).cps⟩ := by
 show Str.mk ((b :: r).foldl (fun (acc : Array Nat) (p : Str) => acc ++ sep.cps ++ p.cps) a.cps) = Str.mk (a.cps ++ sep.cps ++ r.foldl (fun (acc : Array Nat) (p : Str) => acc ++ sep.cps ++ p.cps) b.cps)
 rw [List.foldl_cons, D4]
end
end Ev
end
section
namespace Ev
open PySem PySem.W PySem.Calls PyProof.Rows PySem.SeqAt
section
variable {c : Cx} {nm : Nm} {X : aT} {fa : List (Option Addr)} {σ σ' σ1 σ2 bf bX : ae} {env : Env} {vars vars' bG : af} {A : Around} {F F' F0 : FM} {ρ ao bD : List (List Addr)} {s s' : Shared} {fl : aI}
theorem aA.and {a b : Expr} {pos : Pos} {x x' d : D} {t : Bool} (ha : aA c nm X env fa A (eval a env) vars σ x σ1) (ex : res σ1 x = some x') (et : oO x' = some t)
  (hb : t = true → aA c nm X env fa A (eval b env) vars σ1 d σ2) (h0 : t = false → d = x ∧ σ2 = σ1) : aA c nm X env fa A (eval (.BoolOp .And [a, b] pos) env) vars σ d σ2 := by
 intro F ρ s Q Ex w post
 show wpAny _ _ (eval a env >>= fun v => standAt pos >>= fun ξ => holding [v] (truthy v) >>= fun t => match BoolOp.And, t with
  | .And, false | .Or, true => pure v
  | _, _ => boolOp pos .And [eval b env]) Q Ex s
 refine wpAny_bind (ha F ρ s _ Ex w fun F1 aB v1 s1 l1 p1 w1 r1 => wpAny_bind (wpAny_standAt (wpAny_bind (wpAny_holding ?_))))
 refine zO w1.g (w1.g.rd r1 ex) et fun s2 k => ?_
 cases t with
 | false =>
  obtain ⟨rfl, rfl⟩ := h0 rfl
  exact wpAny_pure (post F1 aB v1 s2 l1 p1 (w1.keep k) r1)
 | true => exact hb rfl F1 aB s2 _ Ex (w1.keep k) fun F2 aQ v2 s3 l2 p2 w2 r2 => post F2 aQ v2 s3 (l1.trans l2) (p1.trans p2) w2 r2
theorem aA.or {a b : Expr} {pos : Pos} {x x' d : D} {t : Bool} (ha : aA c nm X env fa A (eval a env) vars σ x σ1) (ex : res σ1 x = some x') (et : oO x' = some t)
  (hb : t = false → aA c nm X env fa A (eval b env) vars σ1 d σ2) (h0 : t = true → d = x ∧ σ2 = σ1) : aA c nm X env fa A (eval (.BoolOp .Or [a, b] pos) env) vars σ d σ2 := by
 intro F ρ s Q Ex w post
 show wpAny _ _ (eval a env >>= fun v => standAt pos >>= fun ξ => holding [v] (truthy v) >>= fun t => match BoolOp.Or, t with
  | .And, false | .Or, true => pure v
  | _, _ => boolOp pos .Or [eval b env]) Q Ex s
 refine wpAny_bind (ha F ρ s _ Ex w fun F1 aB v1 s1 l1 p1 w1 r1 => wpAny_bind (wpAny_standAt (wpAny_bind (wpAny_holding ?_))))
 refine zO w1.g (w1.g.rd r1 ex) et fun s2 k => ?_
 cases t with
 | true =>
  obtain ⟨rfl, rfl⟩ := h0 rfl
  exact wpAny_pure (post F1 aB v1 s2 l1 p1 (w1.keep k) r1)
 | false => exact hb rfl F1 aB s2 _ Ex (w1.keep k) fun F2 aQ v2 s3 l2 p2 w2 r2 => post F2 aQ v2 s3 (l1.trans l2) (p1.trans p2) w2 r2
theorem aA.ite {t a b : Expr} {pos : Pos} {v : Bool} {d : D} (h : bN c nm X env fa A (isTrue t env (eval t env)) vars σ v σ1)
  (ha : v = true → aA c nm X env fa A (eval a env) vars σ1 d σ2) (hb : v = false → aA c nm X env fa A (eval b env) vars σ1 d σ2) : aA c nm X env fa A (eval (.IfExp t a b pos) env) vars σ d σ2 := by
 intro F ρ s Q Ex w post
 refine wpAny_IfExp (h F ρ s _ Ex w fun F1 aB s1 l1 p1 w1 => ?_)
 cases v with
 | true => exact ha rfl F1 aB s1 _ Ex w1 fun F2 aQ f s2 l2 p2 w2 r2 => post F2 aQ f s2 (l1.trans l2) (p1.trans p2) w2 r2
 | false => exact hb rfl F1 aB s1 _ Ex w1 fun F2 aQ f s2 l2 p2 w2 r2 => post F2 aQ f s2 (l1.trans l2) (p1.trans p2) w2 r2
theorem bN.not {a : Expr} {pos : Pos} {t : Bool} {whole : Sem Value} (h : bN c nm X env fa A (isTrue a env (eval a env)) vars σ t σ1) : bN c nm X env fa A (isTrue (.UnaryOp .Not a pos) env whole) vars σ (!t) σ1 :=
 fun F ρ s Q Ex w post => wpAny_isTrue_Not (h F ρ s _ Ex w post)
theorem bN.and {a b : Expr} {pos : Pos} {t u : Bool} {whole : Sem Value} (ha : bN c nm X env fa A (isTrue a env (eval a env)) vars σ t σ1) (hb : t = true → bN c nm X env fa A (isTrue b env (eval b env)) vars σ1 u σ2) (h0 : t = false → u = false ∧ σ2 = σ1) :
  bN c nm X env fa A (isTrue (.BoolOp .And [a, b] pos) env whole) vars σ u σ2 := by
 intro F ρ s Q Ex w post
 show wpAny _ _ (isTrue a env (eval a env) >>= fun t => match BoolOp.And, t with
  | .And, false => pure false
  | .Or, true => pure true
  | _, _ => isTrue b env (eval b env) >>= fun u => match BoolOp.And, u with
   | .And, false => pure false
   | .Or, true => pure true
   | _, _ => pure true) Q Ex s
 refine wpAny_bind (ha F ρ s _ Ex w fun F1 aB s1 l1 p1 w1 => ?_)
 cases t with
 | false => obtain ⟨rfl, rfl⟩ := h0 rfl; exact wpAny_pure (post F1 aB s1 l1 p1 w1)
 | true =>
  refine wpAny_bind (hb rfl F1 aB s1 _ Ex w1 fun F2 aQ s2 l2 p2 w2 => ?_)
  cases u <;> exact wpAny_pure (post F2 aQ s2 (l1.trans l2) (p1.trans p2) w2)
theorem bN.or {a b : Expr} {pos : Pos} {t u : Bool} {whole : Sem Value} (ha : bN c nm X env fa A (isTrue a env (eval a env)) vars σ t σ1) (hb : t = false → bN c nm X env fa A (isTrue b env (eval b env)) vars σ1 u σ2) (h0 : t = true → u = true ∧ σ2 = σ1) :
  bN c nm X env fa A (isTrue (.BoolOp .Or [a, b] pos) env whole) vars σ u σ2 := by
 intro F ρ s Q Ex w post
 show wpAny _ _ (isTrue a env (eval a env) >>= fun t => match BoolOp.Or, t with
  | .And, false => pure false
  | .Or, true => pure true
  | _, _ => isTrue b env (eval b env) >>= fun u => match BoolOp.Or, u with
   | .And, false => pure false
   | .Or, true => pure true
   | _, _ => pure false) Q Ex s
 refine wpAny_bind (ha F ρ s _ Ex w fun F1 aB s1 l1 p1 w1 => ?_)
 cases t with
 | true => obtain ⟨rfl, rfl⟩ := h0 rfl; exact wpAny_pure (post F1 aB s1 l1 p1 w1)
 | false =>
  refine wpAny_bind (hb rfl F1 aB s1 _ Ex w1 fun F2 aQ s2 l2 p2 w2 => ?_)
  cases u <;> exact wpAny_pure (post F2 aQ s2 (l1.trans l2) (p1.trans p2) w2)
theorem bN.dflt {e : Expr} {x x' : D} {b : Bool} (h : aA c nm X env fa A (eval e env) vars σ x σ1) (ex : res σ1 x = some x') (et : oO x' = some b)
  (he : isTrue e env (eval e env) = (do let v ← eval e env; standAt e.pos; holding [v] (truthy v))) : bN c nm X env fa A (isTrue e env (eval e env)) vars σ b σ1 := by
 intro F ρ s Q Ex w post
 rw [he]
 refine wpAny_bind (h F ρ s _ Ex w fun F1 aB v1 s1 l1 p1 w1 r1 => wpAny_bind (wpAny_standAt (wpAny_holding ?_)))
 exact zO w1.g (w1.g.rd r1 ex) et fun s2 k => post F1 aB s2 l1 p1 (w1.keep k)
theorem bN.QA : bN c nm X env fa A (forIn ([] : List Expr) true fun c r => if r = true then do let ok ← isTrue c env (eval c env); pure (ForInStep.yield ok) else pure (ForInStep.yield r)) vars σ true σ :=
 fun F ρ s Q Ex w post => wpAny_tests_nil (post F ρ s aG.rfl (List.prefix_refl _) w)
theorem Qx {r : List Expr} : (forIn r false fun c r => if r = true then do let ok ← isTrue c env (eval c env); pure (ForInStep.yield ok) else pure (ForInStep.yield r)) = (pure false : Sem Bool) := by
 induction r with
 | nil => rfl
 | cons e r ih => rw [List.forIn_cons]; exact ih
theorem bN.Qu {e : Expr} {r : List Expr} {t u : Bool} (h : bN c nm X env fa A (isTrue e env (eval e env)) vars σ t σ1) (hr : t = true → bN c nm X env fa A (forIn r true fun c r => if r = true then do let ok ← isTrue c env (eval c env); pure (ForInStep.yield ok) else pure (ForInStep.yield r)) vars σ1 u σ2)
  (h0 : t = false → u = false ∧ σ2 = σ1) : bN c nm X env fa A (forIn (e :: r) true fun c r => if r = true then do let ok ← isTrue c env (eval c env); pure (ForInStep.yield ok) else pure (ForInStep.yield r)) vars σ u σ2 := by
 intro F ρ s Q Ex w post
 rw [List.forIn_cons]
 simp only [if_true]
 refine wpAny_bind (wpAny_bind (h F ρ s _ Ex w fun F1 aB s1 l1 p1 w1 => wpAny_pure ?_))
 dsimp only
 cases t with
 | false => obtain ⟨rfl, rfl⟩ := h0 rfl; rw [Qx]; exact wpAny_pure (post F1 aB s1 l1 p1 w1)
 | true => exact hr rfl F1 aB s1 _ Ex w1 fun F2 aQ s2 l2 p2 w2 => post F2 aQ s2 (l1.trans l2) (p1.trans p2) w2
end
theorem iB {e : Expr} {es : List Expr} {env : Env} (h : gz e = true) : starEach (e :: es) env = (false, eval e env) :: starEach es env := by
 cases e <;> first | rfl | (first | exact au h | exact ai h | exact nomatch h)
theorem yo {e : Expr} {env : Env} (h : gz e = true) : ∀ x, foldedSetIterable e env x = pure x := by
 cases e <;> first | exact fun ξ => rfl | (first | exact au h | exact ai h | exact nomatch h)
theorem EX {e : Expr} {op : CmpOp} (h : gz e = true) : ∀ t : Sem Value, markedEach [op] [e] [t] = [t] := by
 cases e <;> first | exact fun ξ => rfl | (first | exact au h | exact ai h | exact nomatch h)
theorem Qg {i : Expr} (h : gz i = true) : ∀ o v, subscripted i false o v = operate [o, v] (getItem o v) := by
 cases i <;> first | exact fun ξ ξ => rfl | (first | exact au h | exact ai h | exact nomatch h)
end Ev
end
section
namespace Ev
open PySem PySem.W PySem.Calls PyProof.Rows PySem.SeqAt
open Builtin Builtin.Str
theorem Gp {c : Nat} : ∀ {a : List Nat}, c ∉ a → cF c a = [a] := @fun aa => @(match aa with
 | [] => @fun ξ => rfl
 | x :: a => @fun h => by
  have hx : (x == c) = false := beq_eq_false_iff_ne.mpr fun e => h (e ▸ List.mem_cons_self)
  show (if (x == c) = true then [] :: cF c a else match cF c a with | w :: ws => (x :: w) :: ws | [] => [[x]]) = _
  rw [hx, Gp (a := a) fun q => h (List.mem_cons_of_mem _ q)]; rfl)
theorem Gn {c : Nat} {r : List Nat} : ∀ {a : List Nat}, c ∉ a → cF c (a ++ c :: r) = a :: cF c r := @fun aa => @(match aa with
 | [] => @fun ξ => by
  show (if (c == c) = true then [] :: cF c r else _) = _
  rw [beq_self_eq_true]; rfl
 | x :: a => @fun h => by
  have hx : (x == c) = false := beq_eq_false_iff_ne.mpr fun e => h (e ▸ List.mem_cons_self)
  show (if (x == c) = true then [] :: cF c (a ++ c :: r) else match cF c (a ++ c :: r) with | w :: ws => (x :: w) :: ws | [] => [[x]]) = _
  rw [hx, Gn (a := a) fun q => h (List.mem_cons_of_mem _ q)]; rfl)
theorem Gq {c : Nat} : ∀ {ps : List Str}, ps ≠ [] → (∀ p ∈ ps, c ∉ p.cps.toList) → cF c (Txt.join ⟨#[c]⟩ ps).cps.toList = ps.map fun p => p.cps.toList := @fun aa => @(match aa with
 | [] => @fun h ξ => absurd rfl h
 | [a] => @fun ξ h => Gp (h a List.mem_cons_self)
 | a :: b :: r => @fun ξ h => by
  have e : (Txt.join ⟨#[c]⟩ (a :: b :: r)).cps.toList = a.cps.toList ++ c :: (Txt.join ⟨#[c]⟩ (b :: r)).cps.toList := by
   rw [join_cons]
   show (a.cps ++ #[c] ++ (Txt.join ⟨#[c]⟩ (b :: r)).cps).toList = _
   rw [Array.toList_append, Array.toList_append, List.append_assoc]; rfl
  rw [e, Gn (h a List.mem_cons_self), Gq (ps := b :: r) (List.cons_ne_nil _ _) fun p m => h p (List.mem_cons_of_mem _ m)]; rfl)
theorem PX (s : List Nat) (c : Nat) : (Txt.split ⟨s.toArray⟩ ⟨#[c]⟩).map (fun p => p.cps.toList) = cF c s := by
 have bH : Txt.split ⟨s.toArray⟩ ⟨#[c]⟩ ≠ [] := fun q => by have := split_pos ⟨s.toArray⟩ ⟨#[c]⟩; rw [q] at this; exact absurd this (by decide)
 have hj : Txt.join ⟨#[c]⟩ (Txt.split ⟨s.toArray⟩ ⟨#[c]⟩) = ⟨s.toArray⟩ := (StrLaws.glued_eq_join _ _).trans (StrLaws.join_split _ _)
 rw [← Gq bH (StrLaws.split_free ⟨s.toArray⟩ c), hj]
section
variable {c : Cx} {nm : Nm} {X : aT} {fa : List (Option Addr)} {σ σ' σ1 σ2 : ae} {env : Env} {vars : af} {A : Around} {F : FM} {ρ : List (List Addr)} {s : Shared} {w : World} {prog : Program}
theorem F8 : ∀ l : List (Str × Tok), aC c.C F ρ (strValues l) ((l.map fun p => p.1.cps.toList).map D.str) := @fun aa => match aa with
 | [] => .nil
 | (⟨a⟩, t) :: l => .cons (by have e := Rv.str (C := c.C) (F := F) (ρ := ρ) a.toList t; rw [Array.toArray_toList] at e; exact e) (F8 l)
theorem PV {x y : Str} {t u : Tok} {Q : Value → Shared → Prop} {E : Value → Shared → Prop} (hy : (y.length == 0) = false) (hx : x.length ≤ az)
  (h : ∀ (l : List (Str × Tok)) (tk : Nat), l.map (·.1) = Txt.split x y → s.toks ≤ tk → Q (.ref s.heap.objs.size) { s with toks := tk, heap := s.heap.push { cls := .type "list", data := .seq (strValues l).toArray } }) : wpAny (model prog w) A (call (.builtin "str.split") [.str x t, .str y u]) Q E s := by
 have hz : x.length ≤ sizeLine := iW hx
 have hl := PyProof.Rows.split_le x y
 have jg : (Txt.split x y).length ≤ sizeLine := Nat.le_trans hl (by rw [sizeLine_eq]; unfold az at hx; lia)
 cases h1 : (decide (x.length < y.length) || decide (strKind x < strKind y)) with
 | false =>
  cases hf : (occurrences x y 0 x.length (x.length + 1)).isEmpty with
  | false =>
   have e : partsBetween x (occurrences x y 0 x.length (x.length + 1)) y.length = Txt.split x y := ((if_neg (ne_true_of_eq_false h1)).trans (if_neg (ne_true_of_eq_false hf))).symm
   refine call_meets F.slot_str_split (typeIs_str _ _ _) F.entry_str_split (F.args_str_split_2 _ _) (meets_str_split_sep x y t u h1 hy hf hz (by rw [e]; exact jg)) ?_
   show wants Q E _ { s with toks := _, heap := s.heap.push { cls := .type "list", data := .seq (strsFrom s.toks (partsBetween x (occurrences x y 0 x.length (x.length + 1)) y.length)).toArray } }
   rw [strsFrom_eq]
   exact h (numbered s.toks _) _ ((numbered_texts _ _).trans e) (Nat.le_add_right _ _)
  | true => exact call_meets F.slot_str_split (typeIs_str _ _ _) F.entry_str_split (F.args_str_split_2 _ _) (meets_str_split_not_found x y t u h1 hy hf) (h [(x, t)] _ ((if_neg (ne_true_of_eq_false h1)).trans (if_pos hf)).symm (Nat.le_refl _))
 | true => exact call_meets F.slot_str_split (typeIs_str _ _ _) F.entry_str_split (F.args_str_split_2 _ _) (meets_str_split_cannot_occur x y t u h1) (h [(x, t)] _ (if_pos h1).symm (Nat.le_refl _))
theorem aA.split {o a : Expr} {apos pos : Pos} {t : List Nat} {c0 : Nat} (hb : fg o = true) (hp : (apos.endLine == pos.line) = true) (fU : starEach [a] env = (false, eval a env) :: starEach [] env)
  (ho : aA c nm X env fa A (eval o env) vars σ (.str t) σ1) (ha : aA c nm X env fa A (eval a env) vars σ1 (.str [c0]) σ2) (hz : t.length ≤ az) :
  aA c nm X env fa A (eval (.Call (.Attribute o ("split" : Str) apos) [a] [] pos) env) vars σ (.lst ((cF c0 t).map .str)) σ2 := by
 intro F ρ s Q Ex w post
 have bB : (starEach [a] env).all (!·.1) = true := by rw [fU]; rfl
 refine rA hb hp (by simp) bB (ho F ρ s _ Ex w fun F1 aB v1 s1 l1 p1 w1 r1 => fun pl => ?_)
 obtain ⟨tk, rfl⟩ := r1.inv
 refine getMethod_builtin (typeIs_str _ _ _) PySem.F.plainAttrs_str PySem.F.slot_str_split PySem.F.type_str_split (fun ξ e => nomatch e) ?_
 refine qX bB ((cy.cons (ds := []) fU ha cy.nil) F1 aB s1 _ Ex w1 fun F2 aQ vs s2 l2 p2 w2 r2 => ?_)
 obtain ⟨u, vs, rfl, ru, rn⟩ := r2.inv
 obtain rfl := (rn.inv : vs = [])
 obtain ⟨tu, rfl⟩ := ru.inv
 refine PV rfl hz fun l Qz hl ht => ?_
 have rs : aC c.C F2 aQ (strValues l) ((cF c0 t).map D.str) := by
  have e := F8 (c := c) (F := F2) (ρ := aQ) l
  rw [show (l.map fun p => p.1.cps.toList) = cF c0 t by rw [← PX, ← hl, List.map_map]; rfl] at e
  exact e
 obtain ⟨F3, l3, w3, r3⟩ := w2.res (Kp.mk' (tk := Qz) (fun b o e => Heap.get?_push_of_some _ e) ht) (.lst (o := { cls := .type "list", data := .seq (strValues l).toArray }) (Heap.get?_none_of_le (Nat.le_refl _)) (Heap.get?_push_size _ rfl) rfl rfl rs)
 exact post F3 aQ _ _ ((l1.trans l2).trans l3) (p1.trans p2) w3 r3
end
end Ev
end
section
namespace Ev
open PySem PySem.W PySem.Calls PyProof.Rows PySem.SeqAt
structure ck (c : Cx) (C : Cc) (Δ : Dl) (n : Nat) : Prop where
 Z : cG c
 N : lB c
 cls : qZ c
 cset : uV c
 nb : NoneBooked c.B
 fn : ∀ x f, iC C.fns x = some f → ∃ v, nsIn c.K mainGlobals x = some (some v) ∧ keepIn c.K v = true ∧ i8 c n v (Δ.fns f)
 mu : ∀ x f, iC C.muts x = some f → ∃ v, nsIn c.K mainGlobals x = some (some v) ∧ keepIn c.K v = true ∧ j4 c n v (Δ.muts f)
 me : ∀ m f, iC C.meths m = some f → ∃ g, findIn c.K (.ref c.C) m = some (some (.ref g)) ∧ isFn c.K (.ref g) = true ∧ plainGet c.K c.C m = true ∧ (∀ k, k < 5 → (attrName k == m) = false) ∧ keepIn c.K (.ref g) = true ∧ i8 c n (.ref g) (Δ.fns (tZ + f))
 nw : ∃ v, nsIn c.K mainGlobals C.cls = some (some v) ∧ keepIn c.K v = true ∧ rC c n v Δ.new
 cat : ∀ nm X env fa A vars σ x p y pos t, cu nm x = true → (x == C.cls) = true → C.cattrs.lookup y = some t → aA c nm X env fa A (eval (.Attribute (.Name x p) y pos) env) vars σ (.str t) σ
 aH : Δ.aH = true → c.pos = true
 di : Δ.di = true → j7 c
noncomputable def mC : Expr → Bool := @fun aa => match aa with
 | .ListComp υ1 υ2 υ3 υ4 => true
 | υ1 => false
noncomputable def Qw (xs : List Expr) (env : Env) : Sem Bool := forIn xs true fun c r => if r = true then do let ok ← isTrue c env (eval c env); pure (ForInStep.yield ok) else pure (ForInStep.yield r)
structure MX (c : Cx) (Δ : Dl) (n0 : Nat) (nm : Nm) (e : E) (x : Expr) : Prop where
 ok : gz x = true
 ev : ∀ n env fa X A vars σ d σ', Good n0 A → ah Δ n e vars σ = some (d, σ') → aA c nm X env fa A (eval x env) vars σ d σ'
 tr : ∀ n env fa X A vars σ b σ', Good n0 A → aX Δ n e vars σ = some (b, σ') → bN c nm X env fa A (isTrue x env (eval x env)) vars σ b σ'
 it : ∀ n iA t T env fa X A vars σ ds σ', Good n0 A → b9 iA T t = true → kI e T = true → ef Δ n e vars σ = some (ds, σ') → eI c nm X env fa A t x vars σ ds σ' ∧ ds.length ≤ az
 us : mC x = true → ∀ n env fa X A vars σ d σ', Good n0 A → ah Δ n e vars σ = some (d, σ') → oV c nm X env fa A x vars σ d σ'
noncomputable def Aj (x : Expr) : Prop := ∀ env, isTrue x env (eval x env) = (do let v ← eval x env; standAt x.pos; holding [v] (truthy v))
noncomputable def u5 (Δ : Dl) (e : E) : Prop := ∀ n vars σ, aX Δ (n + 1) e vars σ = seq1 (ah Δ n e vars) (fun x σ => (g8 x σ).map fun t => (t, σ)) σ
noncomputable def Ak (Δ : Dl) (e : E) : Prop := ∀ n vars σ, ef Δ (n + 1) e vars σ = seq1 (ah Δ n e vars) jj σ
section
variable {c : Cx} {C : Cc} {Δ : Dl} {n0 : Nat} {nm : Nm} {e : E} {x : Expr}
theorem MX.yM (hE : ∀ n env fa X A vars σ d σ', Good n0 A → ah Δ n e vars σ = some (d, σ') → aA c nm X env fa A (eval x env) vars σ d σ') (hb : Aj x) (ht : u5 Δ e) :
  ∀ n env fa X A vars σ b σ', Good n0 A → aX Δ n e vars σ = some (b, σ') → bN c nm X env fa A (isTrue x env (eval x env)) vars σ b σ' := @fun aa => @(match aa with
 | 0 => @fun env fa X A vars σ b σ' gd h => by first | exact au h | exact ai h | exact nomatch h
 | n + 1 => @fun env fa X A vars σ b σ' gd h => by
  rw [ht n vars σ] at h
  refine bk h fun y σ1 h1 h2 => bT h2 fun t h3 h4 => ?_
  obtain ⟨rfl, rfl⟩ := Prod.mk.inj h4
  exact aO h3 fun y' h5 h6 => bN.dflt (hE n env fa X A vars σ y σ1 gd h1) h5 h6 (hb env))
theorem MA {d : D} {σ σ' : ae} {ds : List D} (h : jj d σ = some (ds, σ')) : ∃ d', Ev.cS σ d = some (d', σ') ∧ itemsOf d' = some ds ∧ ds.length ≤ az :=
 aO h fun p h1 h2 => aO h2 fun ds' h3 h4 => by
  obtain ⟨h5, h6⟩ := bx h4
  obtain ⟨rfl, rfl⟩ := cg h6
  exact ⟨p.1, h1, h3, h5⟩
theorem MX.mK (hE : ∀ n env fa X A vars σ d σ', Good n0 A → ah Δ n e vars σ = some (d, σ') → aA c nm X env fa A (eval x env) vars σ d σ') (hi : Ak Δ e) :
  ∀ n iA t T env fa X A vars σ ds σ', Good n0 A → b9 iA T t = true → kI e T = true → ef Δ n e vars σ = some (ds, σ') → eI c nm X env fa A t x vars σ ds σ' ∧ ds.length ≤ az := @fun aa => @(match aa with
 | 0 => @fun iA t T env fa X A vars σ ds σ' gd ξ ξ h => by first | exact au h | exact ai h | exact nomatch h
 | n + 1 => @fun iA t T env fa X A vars σ ds σ' gd ξ ξ h => by
  rw [hi n vars σ] at h
  refine bk h fun y σ1 h1 h2 => ?_
  obtain ⟨d', h3, h4, h5⟩ := MA h2
  exact ⟨eI.of gd.hh (hE n env fa X A vars σ y σ1 gd h1) h3 h4, h5⟩)
theorem MX.fuel (hE : ∀ n env fa X A vars σ d σ', Good n0 A → ah Δ (n + 1) e vars σ = some (d, σ') → aA c nm X env fa A (eval x env) vars σ d σ') :
  ∀ n env fa X A vars σ d σ', Good n0 A → ah Δ n e vars σ = some (d, σ') → aA c nm X env fa A (eval x env) vars σ d σ' := @fun aa => @(match aa with
 | 0 => @fun env fa X A vars σ d σ' gd h => by first | exact au h | exact ai h | exact nomatch h
 | n + 1 => @fun env fa X A vars σ d σ' gd h => hE n env fa X A vars σ d σ' gd h)
theorem MX.of (ok : gz x = true) (hl : mC x = false) (hb : Aj x) (ht : u5 Δ e) (hi : Ak Δ e)
  (hE : ∀ n env fa X A vars σ d σ', Good n0 A → ah Δ (n + 1) e vars σ = some (d, σ') → aA c nm X env fa A (eval x env) vars σ d σ') : MX c Δ n0 nm e x :=
 ⟨ok, MX.fuel hE, MX.yM (MX.fuel hE) hb ht, MX.mK (MX.fuel hE) hi, fun h => by rw [hl] at h; (first | exact au h | exact ai h | exact nomatch h)⟩
theorem xh {d d' : D} {σ σ' : ae} (h : iQ Δ d σ = some (d', σ')) : d' = d ∧ σ' = σ ∧ (ji d = true → Δ.aH = true) := by
 obtain ⟨h1, h2⟩ := gT h
 obtain ⟨rfl, rfl⟩ := cg h2
 refine ⟨rfl, rfl, fun h => ?_⟩
 rw [h, Bool.true_and] at h1
 cases q : Δ.aH with
 | true => rfl
 | false => exact absurd (by rw [q]; rfl) h1
theorem MX.const {k : Const} {d : D} {n : Nat} {p : Pos} (D : ck c C Δ n0) (h : nH k = some d) : MX c Δ n0 nm (.lit d) (.Constant k n p) :=
 .of rfl rfl (fun ξ => rfl) (fun ξ ξ ξ => rfl) (fun ξ ξ ξ => rfl) fun n env fa X A vars σ d' σ' gd he => by
  obtain ⟨rfl, rfl, hh⟩ := xh (show iQ Δ d σ = some (d', σ') from he)
  exact aA.const h fun q => D.aH (hh q)
theorem MX.cat {y z : Str} {p p' : Pos} {t : List Nat} (D : ck c C Δ n0) (h1 : cu nm y = true) (h2 : (y == C.cls) = true) (h3 : C.cattrs.lookup z = some t) : MX c Δ n0 nm (.lit (.str t)) (.Attribute (.Name y p) z p') :=
 .of rfl rfl (fun ξ => rfl) (fun ξ ξ ξ => rfl) (fun ξ ξ ξ => rfl) fun n env fa X A vars σ d' σ' gd he => by
  obtain ⟨rfl, rfl, hh⟩ := xh (show iQ Δ (.str t) σ = some (d', σ') from he)
  exact D.cat _ _ _ _ _ _ _ _ _ _ _ _ h1 h2 h3
theorem MX.var {y : Str} {i : Nat} {p : Pos} (h : nI nm y = some i) : MX c Δ n0 nm (.var i) (.Name y p) :=
 .of rfl rfl (fun ξ => rfl) (fun ξ ξ ξ => rfl) (fun ξ ξ ξ => rfl) fun n env fa X A vars σ d' σ' gd he => by
  refine bT (show (vars[i]?.join).map (fun d => (d, σ)) = some (d', σ') from he) fun d h1 h2 => ?_
  obtain ⟨rfl, rfl⟩ := Prod.mk.inj h2
  exact aA.var h h1
theorem HB {op : Operator} {x y : D} {p : List D × List D} (h : nu op x y = some p) : op = .Add ∧ x = .lst p.1 ∧ y = .lst p.2 := by
 cases op with
 | Add => exact aO (show ((dW x).bind fun xs => (dW y).map fun ys => (xs, ys)) = some p from h) fun xs h1 h2 => bT h2 fun ys h3 h4 => by subst h4; exact ⟨rfl, jl h1, jl h3⟩
 | _ => (first | exact au h | exact ai h | exact nomatch h)
theorem H7 {op : Operator} {x y d : D} {σ σ' : ae} (h : jB Δ op x y σ = some (d, σ')) :
  (∃ xs ys, op = .Add ∧ x = .lst xs ∧ y = .lst ys ∧ xs.length + ys.length ≤ az ∧ d = .loc σ.length ∧ σ' = σ ++ [some (.lst (xs ++ ys))]) ∨ (dH op x y = some d ∧ σ' = σ ∧ (ji d = true → Δ.aH = true)) := by
 unfold jB at h
 match hq : nu op x y, h with
 | some p, h =>
  obtain ⟨h1, h2⟩ := bx h
  obtain ⟨rfl, rfl⟩ := cg h2
  obtain ⟨h3, h4, h5⟩ := HB hq
  exact .inl ⟨p.1, p.2, h3, h4, h5, h1, rfl, rfl⟩
 | none, h =>
  refine aO h fun z h1 h2 => ?_
  obtain ⟨rfl, rfl, h3⟩ := xh h2
  exact .inr ⟨h1, rfl, h3⟩
theorem MX.bin {op : Operator} {a b : E} {y z : Expr} {p : Pos} (D : ck c C Δ n0) (ha : MX c Δ n0 nm a y) (hb : MX c Δ n0 nm b z) : MX c Δ n0 nm (.bin op a b) (.BinOp y op z p) :=
 .of rfl rfl (fun ξ => rfl) (fun ξ ξ ξ => rfl) (fun ξ ξ ξ => rfl) fun n env fa X A vars σ d' σ' gd he => by
  refine bk (show seq1 (ah Δ n a vars) (fun x => seq1 (ah Δ n b vars) (nB Δ op x)) σ = _ from he) fun u σ1 e1 he => bk he fun v σ2 e2 he => aO he fun u' e3 he => aO he fun v' e4 he => ?_
  have h1 := ha.ev n env fa X A vars σ u σ1 gd e1
  have h2 := hb.ev n env fa X A vars σ1 v σ2 gd e2
  rcases H7 he with ⟨xs, ys, rfl, rfl, rfl, h5, rfl, rfl⟩ | ⟨h5, rfl, h6⟩
  ·exact aA.HD h1 h2 e3 e4 h5
  ·exact aA.bin (gd.le (Nat.zero_le _)) h1 h2 e3 e4 h5 fun q => D.aH (h6 q)
theorem MX.rep {a b : E} {y z : Expr} {p p' : Pos} (ha : MX c Δ n0 nm a y) (hb : MX c Δ n0 nm b z) : MX c Δ n0 nm (.rep a b) (.BinOp (.List [y] p') .Mult z p) :=
 .of rfl rfl (fun ξ => rfl) (fun ξ ξ ξ => rfl) (fun ξ ξ ξ => rfl) fun n env fa X A vars σ d' σ' gd he => by
  refine bk (show seq1 (ah Δ n a vars) (fun x => seq1 (ah Δ n b vars) (y9 x)) σ = _ from he) fun u σ1 e1 he => bk he fun v σ2 e2 he => aO he fun i e3 he => ?_
  obtain ⟨h1, h2⟩ := bx he
  obtain ⟨rfl, rfl⟩ := cg h2
  rw [jh e3] at e2
  exact aA.rep (iB ha.ok) (ha.ev n env fa X A vars σ u σ1 gd e1) (hb.ev n env fa X A vars σ1 _ σ2 gd e2) (aj h1).1 (of_decide_eq_true (aj h1).2)
theorem MX.not {a : E} {y : Expr} {p : Pos} (ha : MX c Δ n0 nm a y) : MX c Δ n0 nm (.not a) (.UnaryOp .Not y p) where
 ok := rfl
 ev := fun n env fa X A vars σ d σ' gd h => by cases n <;> (first | exact au h | exact ai h | exact nomatch h)
 tr := fun n env fa X A vars σ b σ' gd h => by
  cases n with
  | zero => (first | exact au h | exact ai h | exact nomatch h)
  | succ n =>
   refine bk (show seq1 (aX Δ n a vars) (fun b σ => some (!b, σ)) σ = _ from h) fun t σ1 e1 e2 => ?_
   obtain ⟨rfl, rfl⟩ := cg e2
   exact bN.not (ha.tr n env fa X A vars σ t σ1 gd e1)
 it := MX.mK (fun n env fa X A vars σ d σ' gd h => by cases n <;> (first | exact au h | exact ai h | exact nomatch h)) fun ξ ξ ξ => rfl
 us := fun h => by first | exact au h | exact ai h | exact nomatch h
theorem GS {d : D} {σ : ae} {t : Bool} (h : g8 d σ = some t) : ∃ d', res σ d = some d' ∧ oO d' = some t := aO h fun d' h1 h2 => ⟨d', h1, h2⟩
theorem MX.both {a b : E} {y z : Expr} {p : Pos} (ha : MX c Δ n0 nm a y) (hb : MX c Δ n0 nm b z) : MX c Δ n0 nm (.both a b) (.BoolOp .And [y, z] p) := by
 have hE : ∀ n env fa X A vars σ d σ', Good n0 A → ah Δ (n + 1) (.both a b) vars σ = some (d, σ') → aA c nm X env fa A (eval (.BoolOp .And [y, z] p) env) vars σ d σ' := fun n env fa X A vars σ d' σ' gd he => by
  refine bk (show seq1 (ah Δ n a vars) (fun x σ => (g8 x σ).bind fun t => if t then ah Δ n b vars σ else some (x, σ)) σ = _ from he) fun u σ1 e1 he => aO he fun t e2 he => ?_
  obtain ⟨u', e3, e4⟩ := GS e2
  refine aA.and (ha.ev n env fa X A vars σ u σ1 gd e1) e3 e4 (fun ht => ?_) fun ht => ?_
  ·subst ht; exact hb.ev n env fa X A vars σ1 d' σ' gd he
  ·subst ht; obtain ⟨rfl, rfl⟩ := cg (show some (u, σ1) = _ from he); exact ⟨rfl, rfl⟩
 refine ⟨rfl, MX.fuel hE, fun n env fa X A vars σ t' σ' gd h => ?_, MX.mK (MX.fuel hE) fun ξ ξ ξ => rfl, fun h => ai h⟩
 cases n with
 | zero => (first | exact au h | exact ai h | exact nomatch h)
 | succ n =>
  refine bk (show seq1 (aX Δ n a vars) (fun t σ => if t then aX Δ n b vars σ else some (false, σ)) σ = _ from h) fun t σ1 e1 he => ?_
  refine bN.and (ha.tr n env fa X A vars σ t σ1 gd e1) (fun ht => ?_) fun ht => ?_
  ·subst ht; exact hb.tr n env fa X A vars σ1 t' σ' gd he
  ·subst ht; obtain ⟨rfl, rfl⟩ := cg (show some (false, σ1) = _ from he); exact ⟨rfl, rfl⟩
theorem MX.either {a b : E} {y z : Expr} {p : Pos} (ha : MX c Δ n0 nm a y) (hb : MX c Δ n0 nm b z) : MX c Δ n0 nm (.either a b) (.BoolOp .Or [y, z] p) := by
 have hE : ∀ n env fa X A vars σ d σ', Good n0 A → ah Δ (n + 1) (.either a b) vars σ = some (d, σ') → aA c nm X env fa A (eval (.BoolOp .Or [y, z] p) env) vars σ d σ' := fun n env fa X A vars σ d' σ' gd he => by
  refine bk (show seq1 (ah Δ n a vars) (fun x σ => (g8 x σ).bind fun t => if t then some (x, σ) else ah Δ n b vars σ) σ = _ from he) fun u σ1 e1 he => aO he fun t e2 he => ?_
  obtain ⟨u', e3, e4⟩ := GS e2
  refine aA.or (ha.ev n env fa X A vars σ u σ1 gd e1) e3 e4 (fun ht => ?_) fun ht => ?_
  ·subst ht; exact hb.ev n env fa X A vars σ1 d' σ' gd he
  ·subst ht; obtain ⟨rfl, rfl⟩ := cg (show some (u, σ1) = _ from he); exact ⟨rfl, rfl⟩
 refine ⟨rfl, MX.fuel hE, fun n env fa X A vars σ t' σ' gd h => ?_, MX.mK (MX.fuel hE) fun ξ ξ ξ => rfl, fun h => ai h⟩
 cases n with
 | zero => (first | exact au h | exact ai h | exact nomatch h)
 | succ n =>
  refine bk (show seq1 (aX Δ n a vars) (fun t σ => if t then some (true, σ) else aX Δ n b vars σ) σ = _ from h) fun t σ1 e1 he => ?_
  refine bN.or (ha.tr n env fa X A vars σ t σ1 gd e1) (fun ht => ?_) fun ht => ?_
  ·subst ht; exact hb.tr n env fa X A vars σ1 t' σ' gd he
  ·subst ht; obtain ⟨rfl, rfl⟩ := cg (show some (true, σ1) = _ from he); exact ⟨rfl, rfl⟩
theorem Bb {nm : Nm} {X : aT} {fa : List (Option Addr)} {F : FM} {ρ : List (List Addr)} {env : Env} {A : Around} {vars : af} {σ : ae} {s : Shared} {op : CmpOp} {x y : D} {r : Bool} {v u : Value} {Q : Value → Shared → Prop} {Ex : Value → Shared → Prop} (gd : Good 0 A) (nb : NoneBooked c.B) (e : b8 op x y = some r)
  (w : W c nm X env fa F ρ vars σ s) (r1 : Rd c F ρ s.heap v x) (r2 : Rd c F ρ s.heap u y) (q : Q (.bool r) s) : wpAny (model c.prog c.w) A (compareOp op v u) Q Ex s := by
 have gen : (if x.dep ≤ 50 then cQ op x y else none) = some r → wpAny (model c.prog c.w) A (compareOp op v u) Q Ex s := fun e => IJ gd w.g nb r1 r2 (bx e).1 (bx e).2 q
 cases op with
 | In => exact (Dh gd w.g r1 r2 (show inD x y = some r from e)).1 q
 | NotIn => exact bT (show (inD x y).map (!·) = some r from e) fun t h1 h2 => by subst h2; exact (Dh gd w.g r1 r2 h1).2 q
 | _ => exact gen e
theorem MX.cmp {op : CmpOp} {a b : E} {y z : Expr} {p : Pos} (D : ck c C Δ n0) (ha : MX c Δ n0 nm a y) (hb : MX c Δ n0 nm b z) : MX c Δ n0 nm (.cmp op a b) (.Compare y [op] [z] p) := by
 have hE : ∀ n env fa X A vars σ d σ', Good n0 A → ah Δ (n + 1) (.cmp op a b) vars σ = some (d, σ') → ∃ r, d = .bool r ∧ aA c nm X env fa A (eval (.Compare y [op] [z] p) env) vars σ (.bool r) σ' ∧ bN c nm X env fa A (isTrue (.Compare y [op] [z] p) env (eval (.Compare y [op] [z] p) env)) vars σ r σ' := fun n env fa X A vars σ d' σ' gd he => by
  refine bk (show seq1 (ah Δ n a vars) (fun x => seq1 (ah Δ n b vars) (vE op x)) σ = _ from he) fun u σ1 e1 he => bk he fun v σ2 e2 he => aO he fun u' e3 he => aO he fun v' e4 he => bT he fun r e5 e6 => ?_
  obtain ⟨rfl, rfl⟩ := Prod.mk.inj e6
  have g0 := gd.le (Nat.zero_le _)
  exact ⟨r, rfl, aA.cmp g0 D.nb (ha.ev n env fa X A vars σ u σ1 gd e1) (hb.ev n env fa X A vars σ1 v σ2 gd e2) e3 e4 (fun F ρ s v u Q Ex w r1 r2 q => Bb g0 D.nb e5 w r1 r2 q) (EX hb.ok)⟩
 have hV : ∀ n env fa X A vars σ d σ', Good n0 A → ah Δ (n + 1) (.cmp op a b) vars σ = some (d, σ') → aA c nm X env fa A (eval (.Compare y [op] [z] p) env) vars σ d σ' := fun n env fa X A vars σ d' σ' gd he => by
  obtain ⟨r, rfl, h, _⟩ := hE n env fa X A vars σ d' σ' gd he
  exact h
 refine ⟨rfl, MX.fuel hV, fun n env fa X A vars σ t' σ' gd h => ?_, MX.mK (MX.fuel hV) fun ξ ξ ξ => rfl, fun h => ai h⟩
 cases n with
 | zero => (first | exact au h | exact ai h | exact nomatch h)
 | succ n =>
  refine bk (show seq1 (ah Δ n (.cmp op a b) vars) (fun x σ => (g8 x σ).map fun t => (t, σ)) σ = _ from h) fun d σ1 e1 he => ?_
  cases n with
  | zero => (first | exact au e1 | exact ai e1 | exact nomatch e1)
  | succ n =>
   obtain ⟨r, rfl, _, hB⟩ := hE n env fa X A vars σ d σ1 gd e1
   obtain ⟨rfl, rfl⟩ := cg (show some (r, σ1) = some (t', σ') from he)
   exact hB
theorem MX.ite {a b d : E} {y z u : Expr} {p : Pos} (ha : MX c Δ n0 nm a y) (hb : MX c Δ n0 nm b z) (hd : MX c Δ n0 nm d u) : MX c Δ n0 nm (.ite a b d) (.IfExp y z u p) := by
 have hE : ∀ n env fa X A vars σ v σ', Good n0 A → ah Δ (n + 1) (.ite a b d) vars σ = some (v, σ') → aA c nm X env fa A (eval (.IfExp y z u p) env) vars σ v σ' := fun n env fa X A vars σ d' σ' gd he => by
  refine bk (show seq1 (aX Δ n a vars) (fun t σ => if t then ah Δ n b vars σ else ah Δ n d vars σ) σ = _ from he) fun t σ1 e1 he => ?_
  refine aA.ite (ha.tr n env fa X A vars σ t σ1 gd e1) (fun ht => ?_) fun ht => ?_
  ·subst ht; exact hb.ev n env fa X A vars σ1 d' σ' gd he
  ·subst ht; exact hd.ev n env fa X A vars σ1 d' σ' gd he
 exact ⟨rfl, MX.fuel hE, fun n env fa X A vars σ t' σ' gd h => by cases n <;> (first | exact au h | exact ai h | exact nomatch h), MX.mK (MX.fuel hE) fun ξ ξ ξ => rfl, fun h => ai h⟩
theorem MX.idx {a b : E} {y z : Expr} {p : Pos} (ha : MX c Δ n0 nm a y) (hb : MX c Δ n0 nm b z) : MX c Δ n0 nm (.idx a b) (.Subscript y z p) :=
 .of rfl rfl (fun ξ => rfl) (fun ξ ξ ξ => rfl) (fun ξ ξ ξ => rfl) fun n env fa X A vars σ d' σ' gd he => by
  refine bk (show seq1 (ah Δ n a vars) (fun x => seq1 (ah Δ n b vars) (xx x)) σ = _ from he) fun u σ1 e1 he => bk he fun v σ2 e2 he => aO he fun u' e3 he => bT he fun z e4 e5 => ?_
  obtain ⟨rfl, rfl⟩ := Prod.mk.inj e5
  exact aA.idx (ha.ev n env fa X A vars σ u σ1 gd e1) (hb.ev n env fa X A vars σ1 v σ2 gd e2) e3 e4 (Qg hb.ok)
theorem MX.attr {a : E} {y : Expr} {z : Str} {k : Nat} {p : Pos} (D : ck c C Δ n0) (hb : fg y = true) (hk : iK z = some k) (ha : MX c Δ n0 nm a y) : MX c Δ n0 nm (.attr a k) (.Attribute y z p) :=
 .of rfl rfl (fun ξ => rfl) (fun ξ ξ ξ => rfl) (fun ξ ξ ξ => rfl) fun n env fa X A vars σ d' σ' gd he => by
  refine bk (show seq1 (ah Δ n a vars) (AF k) σ = _ from he) fun u σ1 e1 he => aO he fun as e2 he => bT he fun z e4 e5 => ?_
  obtain ⟨rfl, rfl⟩ := Prod.mk.inj e5
  exact aA.attr D.Z D.cls hb (ha.ev n env fa X A vars σ u σ1 gd e1) e2 hk e4
end
end Ev
end
section
namespace Ev
open PySem PySem.W PySem.Calls PyProof.Rows PySem.SeqAt
noncomputable def c8 (c : Cx) (Δ : Dl) (n0 : Nat) (nm : Nm) : List E → List Expr → Prop := @fun aa ak => match aa, ak with
 | [], xs => xs = []
 | e :: es, xs => ∃ x ys, xs = x :: ys ∧ MX c Δ n0 nm e x ∧ c8 c Δ n0 nm es ys
noncomputable def MO (c : Cx) (Δ : Dl) (n0 : Nat) (nm : Nm) (o : Option E) (x : Option Expr) : Prop := ∀ n env fa X A vars σ i σ', Good n0 A → fJ Δ n o vars σ = some (i, σ') → i6 c nm X env fa A (evalPart x env) vars σ i σ'
section
variable {c : Cx} {C : Cc} {Δ : Dl} {n0 : Nat} {nm : Nm}
theorem c8.star {env : Env} : ∀ {es : List E} {xs : List Expr}, c8 c Δ n0 nm es xs → (starEach xs env).all (!·.1) = true := @fun aa => @(match aa with
 | [] => @fun xs h => by
  obtain rfl := (h : xs = [])
  rfl
 | e :: es => @fun xs h => by
  obtain ⟨x, ys, rfl, h1, h2⟩ := h
  rw [iB h1.ok]
  exact c8.star h2)
theorem c8.ev {env : Env} {fa : List (Option Addr)} {X : aT} {A : Around} {vars : af} {pos : Pos} (gd : Good n0 A) : ∀ {es : List E} {xs : List Expr} {n : Nat} {σ : ae} {ds : List D} {σ' : ae}, c8 c Δ n0 nm es xs → bA Δ n es vars σ = some (ds, σ') → cy c nm X env fa A (spliced (backTo pos (starEach xs env))) vars σ ds σ' := @fun aa ak aS => @(match aa, ak, aS with
 | [], xs, 0 => @fun σ ds σ' h he => by first | exact au he | exact ai he | exact nomatch he
 | [], xs, n + 1 => @fun σ ds σ' h he => by
  obtain rfl := (h : xs = [])
  obtain ⟨rfl, rfl⟩ := cg (show some ([], σ) = some (ds, σ') from he)
  exact cy.nil
 | e :: es, xs, 0 => @fun σ ds σ' h he => by first | exact au he | exact ai he | exact nomatch he
 | e :: es, xs, n + 1 => @fun σ ds σ' h he => by
  obtain ⟨x, ys, rfl, h1, h2⟩ := h
  refine bk (show seq1 (ah Δ n e vars) (fun d => seq1 (bA Δ n es vars) fun ds σ => some (d :: ds, σ)) σ = _ from he) fun d σ1 e1 he => bk he fun ds' σ2 e2 he => ?_
  obtain ⟨rfl, rfl⟩ := cg he
  exact cy.cons (iB h1.ok) (h1.ev n env fa X A vars σ d σ1 gd e1) (c8.ev gd h2 e2))
theorem c8.tests {env : Env} {fa : List (Option Addr)} {X : aT} {A : Around} {vars : af} (gd : Good n0 A) : ∀ {es : List E} {xs : List Expr} {n : Nat} {σ : ae} {b : Bool} {σ' : ae}, c8 c Δ n0 nm es xs → iD Δ n es vars σ = some (b, σ') → bN c nm X env fa A (Qw xs env) vars σ b σ' := @fun aa ak aS => @(match aa, ak, aS with
 | [], xs, 0 => @fun σ ds σ' h he => by first | exact au he | exact ai he | exact nomatch he
 | [], xs, n + 1 => @fun σ b σ' h he => by
  obtain rfl := (h : xs = [])
  obtain ⟨rfl, rfl⟩ := cg (show some (true, σ) = some (b, σ') from he)
  exact bN.QA
 | e :: es, xs, 0 => @fun σ ds σ' h he => by first | exact au he | exact ai he | exact nomatch he
 | e :: es, xs, n + 1 => @fun σ b σ' h he => by
  obtain ⟨x, ys, rfl, h1, h2⟩ := h
  refine bk (show seq1 (aX Δ n e vars) (fun t σ => if t then iD Δ n es vars σ else some (false, σ)) σ = _ from he) fun t σ1 e1 he => ?_
  refine bN.Qu (h1.tr n env fa X A vars σ t σ1 gd e1) (fun ht => ?_) fun ht => ?_
  ·subst ht; exact c8.tests gd h2 he
  ·subst ht; obtain ⟨rfl, rfl⟩ := cg (show some (false, σ1) = _ from he); exact ⟨rfl, rfl⟩)
theorem MO.none : MO c Δ n0 nm none none := fun n env fa X A vars σ i σ' gd he => by
 cases n with
 | zero => (first | exact au he | exact ai he | exact nomatch he)
 | succ n =>
  obtain ⟨rfl, rfl⟩ := cg (show some (Option.none, σ) = some (i, σ') from he)
  exact i6.none
theorem MO.some {e : E} {x : Expr} (h : MX c Δ n0 nm e x) : MO c Δ n0 nm (some e) (some x) := fun n env fa X A vars σ i σ' gd he => by
 cases n with
 | zero => (first | exact au he | exact ai he | exact nomatch he)
 | succ n =>
  refine bk (show seq1 (ah Δ n e vars) (fun x σ => (intD x).map fun i => (Option.some i, σ)) σ = _ from he) fun d σ1 e1 he => bT he fun j e2 e3 => ?_
  obtain ⟨rfl, rfl⟩ := Prod.mk.inj e3
  rw [jh e2] at e1
  exact i6.some (h.ev n env fa X A vars σ _ σ1 gd e1)
theorem MX.tup {es : List E} {xs : List Expr} {k : Nat} {p : Pos} (h : c8 c Δ n0 nm es xs) : MX c Δ n0 nm (.tup es) (.Tuple xs k p) :=
 .of rfl rfl (fun ξ => rfl) (fun ξ ξ ξ => rfl) (fun ξ ξ ξ => rfl) fun n env fa X A vars σ d' σ' gd he => by
  refine bk (show seq1 (bA Δ n es vars) tupK σ = _ from he) fun ds σ1 e1 he => ?_
  obtain ⟨h1, h2⟩ := bx he
  obtain ⟨rfl, rfl⟩ := cg h2
  exact aA.tup (h.ev gd e1) h1
theorem MX.lst {es : List E} {xs : List Expr} {p : Pos} (h : c8 c Δ n0 nm es xs) : MX c Δ n0 nm (.lst es) (.List xs p) :=
 .of rfl rfl (fun ξ => rfl) (fun ξ ξ ξ => rfl) (fun ξ ξ ξ => rfl) fun n env fa X A vars σ d' σ' gd he => by
  refine bk (show seq1 (bA Δ n es vars) lstK σ = _ from he) fun ds σ1 e1 he => ?_
  obtain ⟨h1, h2⟩ := bx he
  by_cases hl : ds.length ≤ 1
  ·rw [if_pos hl] at h2
   obtain ⟨rfl, rfl⟩ := cg h2
   exact aA.Nl (h.ev gd e1) h1
  ·rw [if_neg hl] at h2
   obtain ⟨rfl, rfl⟩ := cg h2
   exact aA.lst (h.ev gd e1) h1
theorem MX.eT {a : E} {l u s : Option E} {y : Expr} {l' u' s' : Option Expr} {p p' : Pos} (ha : MX c Δ n0 nm a y) (h1 : MO c Δ n0 nm l l') (h2 : MO c Δ n0 nm u u') (h3 : MO c Δ n0 nm s s') : MX c Δ n0 nm (.eT a l u s) (.Subscript y (.Slice l' u' s' p') p) :=
 .of rfl rfl (fun ξ => rfl) (fun ξ ξ ξ => rfl) (fun ξ ξ ξ => rfl) fun n env fa X A vars σ d' σ' gd he => by
  refine bk (show seq1 (ah Δ n a vars) (fun x => seq1 (fJ Δ n l vars) fun lo => seq1 (fJ Δ n u vars) fun hi => seq1 (fJ Δ n s vars) (qK x lo hi)) σ = _ from he) fun v σ1 e1 he => bk he fun i1 σ2 e2 he => bk he fun i2 bf e3 he => bk he fun i3 bX e4 he => aO he fun v' e5 he => bT he fun z e6 e7 => ?_
  obtain ⟨rfl, rfl⟩ := Prod.mk.inj e7
  exact aA.eT (ha.ev n env fa X A vars σ v σ1 gd e1) (h1 n env fa X A vars σ1 i1 σ2 gd e2) (h2 n env fa X A vars σ2 i2 bf gd e3) (h3 n env fa X A vars bf i3 bX gd e4) e5 e6
theorem AX {f : Nat} {ds : List D} {d : D} {σ σ' : ae} (h : lI Δ f ds σ = some (d, σ')) : D.aL ds = true ∧ Δ.fns f ds = some d ∧ σ' = σ := by
 obtain ⟨h1, h2⟩ := bx h
 refine bT h2 fun z h3 h4 => ?_
 obtain ⟨rfl, rfl⟩ := Prod.mk.inj h4
 exact ⟨h1, h3, rfl⟩
theorem MX.call {f : Nat} {es : List E} {xs : List Expr} {y : Str} {p p' : Pos} (D : ck c C Δ n0) (hg : cu nm y = true) (hf : iC C.fns y = some f) (h : c8 c Δ n0 nm es xs) : MX c Δ n0 nm (.call f es) (.Call (.Name y p) xs [] p') :=
 .of rfl rfl (fun ξ => rfl) (fun ξ ξ ξ => rfl) (fun ξ ξ ξ => rfl) fun n env fa X A vars σ d' σ' gd he => by
  refine bk (show seq1 (bA Δ n es vars) (lI Δ f) σ = _ from he) fun ds σ1 e1 he => ?_
  obtain ⟨h1, h2, rfl⟩ := AX he
  obtain ⟨v, q1, q2, q3⟩ := D.fn _ _ hf
  exact aA.Io D.Z gd hg q1 q2 h.star (h.ev gd e1) q3 h1 h2
theorem MX.eN {f : Nat} {o : E} {es : List E} {z : Expr} {xs : List Expr} {y : Str} {p p' : Pos} (D : ck c C Δ n0) (hg : cu nm y = true) (hf : iC C.muts y = some f) (ho : MX c Δ n0 nm o z) (h : c8 c Δ n0 nm es xs) : MX c Δ n0 nm (.eN f o es) (.Call (.Name y p) (z :: xs) [] p') :=
 .of rfl rfl (fun ξ => rfl) (fun ξ ξ ξ => rfl) (fun ξ ξ ξ => rfl) fun n env fa X A vars σ d' σ' gd he => by
  refine bk (show seq1 (ah Δ n o vars) (fun x => seq1 (bA Δ n es vars) (yd Δ f x)) σ = _ from he) fun u σ1 e1 he => bk he fun ds σ2 e2 he => aO he fun q e3 he => ?_
  obtain ⟨h1, h2⟩ := bx he
  refine aO h2 fun w e4 e5 => ?_
  obtain ⟨rfl, rfl⟩ := cg e5
  obtain ⟨rfl, e6⟩ := tW e3
  obtain ⟨v, q1, q2, q3⟩ := D.mu _ _ hf
  exact aA.Ik D.Z gd hg q1 q2 (c8.star (es := o :: es) ⟨z, xs, rfl, ho, h⟩) (iB ho.ok) (ho.ev n env fa X A vars σ _ σ1 gd e1) (h.ev gd e2) e6 q3 (aj h1).1 (aj h1).2 e4
theorem MX.new {a : E} {z : Expr} {y : Str} {p p' : Pos} (D : ck c C Δ n0) (hg : cu nm y = true) (hy : y = C.cls) (ha : MX c Δ n0 nm a z) : MX c Δ n0 nm (.new a) (.Call (.Name y p) [z] [] p') :=
 .of rfl rfl (fun ξ => rfl) (fun ξ ξ ξ => rfl) (fun ξ ξ ξ => rfl) fun n env fa X A vars σ d' σ' gd he => by
  refine bk (show seq1 (ah Δ n a vars) (t8 Δ) σ = _ from he) fun u σ1 e1 he => ?_
  obtain ⟨h1, h2⟩ := bx he
  refine bT h2 fun z h3 h4 => ?_
  obtain ⟨rfl, rfl⟩ := Prod.mk.inj h4
  obtain ⟨v, q1, q2, q3⟩ := D.nw
  exact aA.Im D.Z gd hg (by rw [hy]; exact q1) q2 (iB ha.ok) (ha.ev n env fa X A vars σ u σ1 gd e1) q3 h1 h3
theorem MX.bW {f g : Nat} {o : E} {es : List E} {z : Expr} {xs : List Expr} {m : Str} {ap p : Pos} (D : ck c C Δ n0) (hb : fg z = true) (hp : (ap.endLine == p.line) = true) (hl : xs.length < 29) (hf : iC C.meths m = some g) (KD : f = tZ + g)
  (ho : MX c Δ n0 nm o z) (h : c8 c Δ n0 nm es xs) : MX c Δ n0 nm (.bW f o es) (.Call (.Attribute z m ap) xs [] p) :=
 .of rfl rfl (fun ξ => rfl) (fun ξ ξ ξ => rfl) (fun ξ ξ ξ => rfl) fun n env fa X A vars σ d' σ' gd he => by
  refine bk (show seq1 (ah Δ n o vars) (fun x => seq1 (bA Δ n es vars) (yf Δ f x)) σ = _ from he) fun u σ1 e1 he => bk he fun ds σ2 e2 he => aO he fun as e3 he => ?_
  obtain ⟨h1, h2, rfl⟩ := AX he
  rw [Dp e3] at e1
  obtain ⟨v, q1, q2, q3, q4, q5, q6⟩ := D.me _ _ hf
  exact aA.Il D.Z gd hb hp hl q1 q2 q3 q4 q5 h.star (ho.ev n env fa X A vars σ _ σ1 gd e1) (h.ev gd e2) q6 h1 (by rw [← KD]; exact h2)
theorem MX.append {o a : E} {z x : Expr} {ap p : Pos} (hb : fg z = true) (hp : (ap.endLine == p.line) = true) (ho : MX c Δ n0 nm o z) (ha : MX c Δ n0 nm a x) : MX c Δ n0 nm (.append o a) (.Call (.Attribute z ("append" : Str) ap) [x] [] p) :=
 .of rfl rfl (fun ξ => rfl) (fun ξ ξ ξ => rfl) (fun ξ ξ ξ => rfl) fun n env fa X A vars σ d' σ' gd he => by
  refine bk (show seq1 (ah Δ n o vars) (fun x σ => if n7 σ x then seq1 (ah Δ n a vars) (vc x) σ else none) σ = _ from he) fun u σ1 e1 he => ?_
  obtain ⟨h1, he⟩ := bx he
  refine bk he fun v σ2 e2 he => aO he fun q e3 he => ?_
  obtain ⟨h2, he⟩ := bx he
  obtain ⟨rfl, rfl⟩ := cg he
  obtain ⟨rfl, e6⟩ := tW e3
  exact aA.append hb hp (iB ha.ok) (ho.ev n env fa X A vars σ _ σ1 gd e1) h1 (ha.ev n env fa X A vars σ1 v σ2 gd e2) e6 h2
theorem MX.pop {o : E} {z : Expr} {ap p : Pos} (hb : fg z = true) (hp : (ap.endLine == p.line) = true) (ho : MX c Δ n0 nm o z) : MX c Δ n0 nm (.pop o) (.Call (.Attribute z ("pop" : Str) ap) [] [] p) :=
 .of rfl rfl (fun ξ => rfl) (fun ξ ξ ξ => rfl) (fun ξ ξ ξ => rfl) fun n env fa X A vars σ d' σ' gd he => by
  refine bk (show seq1 (ah Δ n o vars) yP σ = _ from he) fun u σ1 e1 he => aO he fun q e3 he => ?_
  obtain ⟨h2, he⟩ := bx he
  refine bT he fun y h3 h4 => ?_
  obtain ⟨rfl, rfl⟩ := Prod.mk.inj h4
  obtain ⟨rfl, e6⟩ := tW e3
  exact aA.pop hb hp (ho.ev n env fa X A vars σ _ σ1 gd e1) e6 h2 h3
theorem Od {cs : List Nat} {k : Nat} (h : E4 cs = some k) : cs = [k] := by
 cases cs with
 | nil => exact au h
 | cons a r => cases r with
  | nil => exact congrArg (fun x => [x]) (Option.some.inj h)
  | cons b r => exact au h
theorem MX.split {o a : E} {z x : Expr} {ap p : Pos} (hb : fg z = true) (hp : (ap.endLine == p.line) = true) (ho : MX c Δ n0 nm o z) (ha : MX c Δ n0 nm a x) : MX c Δ n0 nm (.split o a) (.Call (.Attribute z ("split" : Str) ap) [x] [] p) :=
 .of rfl rfl (fun ξ => rfl) (fun ξ ξ ξ => rfl) (fun ξ ξ ξ => rfl) fun n env fa X A vars σ d' σ' gd he => by
  refine bk (show seq1 (ah Δ n o vars) (fun x => seq1 (ah Δ n a vars) (zw x)) σ = _ from he) fun u σ1 e1 he => bk he fun v σ2 e2 he => aO he fun s e3 he => aO he fun cs e4 he => aO he fun k e5 he => ?_
  obtain ⟨h2, he⟩ := bx he
  obtain ⟨rfl, rfl⟩ := cg he
  rw [Gx e3] at e1
  rw [Gx e4, Od e5] at e2
  exact aA.split hb hp (iB ha.ok) (ho.ev n env fa X A vars σ _ σ1 gd e1) (ha.ev n env fa X A vars σ1 _ σ2 gd e2) h2
theorem MX.bi {b : Bi} {es : List E} {xs : List Expr} {y : Str} {p p' : Pos} (D : ck c C Δ n0) (hg : cu nm y = true) (hy : y = cU b) (h : c8 c Δ n0 nm es xs) : MX c Δ n0 nm (.bi b es) (.Call (.Name y p) xs [] p') :=
 .of rfl rfl (fun ξ => rfl) (fun ξ ξ ξ => rfl) (fun ξ ξ ξ => rfl) fun n env fa X A vars σ d σ' gd he => by
  obtain ⟨h1, h2⟩ := gT (show (if b == .sorted && !Δ.di then none else seq1 (bA Δ n es vars) (jb b) σ) = some (d, σ') from he)
  refine bk h2 fun ds σ1 e1 he => aO he fun uR e2 he => bT he fun z e3 e4 => ?_
  obtain ⟨rfl, rfl⟩ := Prod.mk.inj e4
  refine aA.bi gd.hh (gd.le (Nat.zero_le _)) D.Z D.N (fun hb => D.di ?_) hg hy h.star (h.ev gd e1) e2 e3
  cases q : Δ.di with
  | true => rfl
  | false => rw [hb, q] at h1; exact absurd rfl h1
theorem MX.kJ {es : List E} {ys : List Expr} {y y' : Str} {p p' q q' : Pos} (D : ck c C Δ n0) (hg : cu nm y = true) (hy : y = cU .list) (h2 : cu nm y' = true) (h3 : y' = cU .range) (h4 : c8 c Δ n0 nm es ys) : MX c Δ n0 nm (.kJ es) (.Call (.Name y p) [.Call (.Name y' q) ys [] q'] [] p') :=
 .of rfl rfl (fun ξ => rfl) (fun ξ ξ ξ => rfl) (fun ξ ξ ξ => rfl) fun n env fa X A vars σ d σ' gd he => by
  refine bk (show seq1 (bA Δ n es vars) (fun ds σ => (jo ds).map fun p => (Ev.D.lst (fF p.1 p.2), σ)) σ = _ from he) fun vs σ1 e1 he => bT he fun r e2 e3 => ?_
  obtain ⟨rfl, rfl⟩ := Prod.mk.inj e3
  exact aA.Nc gd.hh D.Z D.N hg hy h2 h3 (iB rfl) h4.star (h4.ev gd e1) (a := r.1) (b := r.2) e2
end
end Ev
end
section
namespace Ev
open PySem PySem.W PySem.Calls PyProof.Rows PySem.SeqAt
section
variable {c : Cx} {C : Cc} {Δ : Dl} {n0 : Nat} {nm : Nm}
theorem c8.one {a : E} {xs : List Expr} (h : c8 c Δ n0 nm [a] xs) : ∃ x, xs = [x] ∧ MX c Δ n0 nm a x := by
 obtain ⟨x, ys, rfl, h1, h2⟩ := h
 obtain rfl := (h2 : ys = [])
 exact ⟨x, rfl, h1⟩
theorem c8.two {a b : E} {xs : List Expr} (h : c8 c Δ n0 nm [a, b] xs) : ∃ x y, xs = [x, y] ∧ MX c Δ n0 nm a x ∧ MX c Δ n0 nm b y := by
 obtain ⟨x, ys, rfl, h1, h2⟩ := h
 obtain ⟨y, rfl, h3⟩ := h2.one
 exact ⟨x, y, rfl, h1, h3⟩
theorem MX.iter {e : E} {f : Expr} {xs : List Expr} {ks : List Keyword} {p : Pos} (xe : gz (.Call f xs ks p) = true) (hn : ∀ n vars σ, ah Δ (n + 1) e vars σ = none) (ht : u5 Δ e)
  (it : ∀ n iA t T env fa X A vars σ ds σ', Good n0 A → b9 iA T t = true → kI e T = true → ef Δ (n + 1) e vars σ = some (ds, σ') → eI c nm X env fa A t (.Call f xs ks p) vars σ ds σ' ∧ ds.length ≤ az) : MX c Δ n0 nm e (.Call f xs ks p) := by
 have hE : ∀ n env fa X A vars σ d σ', Good n0 A → ah Δ n e vars σ = some (d, σ') → aA c nm X env fa A (eval (.Call f xs ks p) env) vars σ d σ' := fun n env fa X A vars σ d σ' gd he => by
  cases n with
  | zero => exact au he
  | succ n => exact au ((hn n vars σ).symm.trans he)
 exact ⟨xe, hE, MX.yM hE (fun ξ => rfl) ht, fun n iA t T env fa X A vars σ ds σ' gd h1 h2 he => by
  cases n with
  | zero => exact au he
  | succ n => exact it n iA t T env fa X A vars σ ds σ' gd h1 h2 he, fun h => ai h⟩
theorem MX.range {es : List E} {xs : List Expr} {y : Str} {p p' : Pos} (D : ck c C Δ n0) (hg : cu nm y = true) (hy : y = cU .range) (h : c8 c Δ n0 nm es xs) : MX c Δ n0 nm (.range es) (.Call (.Name y p) xs [] p') :=
 .iter rfl (fun ξ ξ ξ => rfl) (fun ξ ξ ξ => rfl) fun n iA t T env fa X A vars σ ds σ' gd ht hk he => by
  refine bk (show seq1 (bA Δ n es vars) ur σ = _ from he) fun vs σ1 e1 he => bT he fun r e2 e3 => ?_
  obtain ⟨rfl, rfl⟩ := Prod.mk.inj e3
  refine ⟨eI.range gd.hh D.Z D.N hg hy h.star (h.ev gd e1) (a := r.1) (b := r.2) e2, ?_⟩
  unfold fF
  rw [List.length_map, List.length_range]
  exact (Fw (a := r.1) (b := r.2) e2).2.2.1
theorem MX.enum {a : E} {x : Expr} {y : Str} {p p' : Pos} (D : ck c C Δ n0) (hg : cu nm y = true) (hy : y = cU .enumerate) (h1 : MX c Δ n0 nm a x) : MX c Δ n0 nm (.enum a) (.Call (.Name y p) [x] [] p') :=
 .iter rfl (fun ξ ξ ξ => rfl) (fun ξ ξ ξ => rfl) fun n iA t T env fa X A vars σ ds σ' gd ht hk he => by
  cases T with
  | var i => exact ai hk
  | tup is =>
  obtain ⟨el, k, q, rfl, _⟩ := qp ht
  refine bk (show seq1 (ah Δ n a vars) BB σ = _ from he) fun u σ1 e1 he => aO he fun r e2 he => aO he fun us e3 he => ?_
  obtain ⟨h2, he⟩ := bx he
  obtain ⟨rfl, rfl⟩ := cg he
  exact ⟨eI.enum gd.hh D.Z D.N hg hy (iB h1.ok) (h1.ev n env fa X A vars σ u σ1 gd e1) (by rw [← jl e3]; exact e2), by rw [vO]; exact h2⟩
theorem MX.zip {a b : E} {x x2 : Expr} {y : Str} {p p' : Pos} (D : ck c C Δ n0) (hg : cu nm y = true) (hy : y = cU .zip) (h1 : MX c Δ n0 nm a x) (h2 : MX c Δ n0 nm b x2) : MX c Δ n0 nm (.zip a b) (.Call (.Name y p) [x, x2] [] p') :=
 .iter rfl (fun ξ ξ ξ => rfl) (fun ξ ξ ξ => rfl) fun n iA t T env fa X A vars σ ds σ' gd ht hk he => by
  cases T with
  | var i => exact ai hk
  | tup is =>
  obtain ⟨el, k, q, rfl, _⟩ := qp ht
  refine bk (show seq1 (ah Δ n a vars) (fun x σ => (Ev.cS σ x).bind fun p => seq1 (ah Δ n b vars) (uS p.1) p.2) σ = _ from he) fun u σ1 e1 he => aO he fun r e2 he => bk he fun v bf e3 he => aO he fun r2 e4 he => aO he fun us e5 he => aO he fun vs e6 he => ?_
  obtain ⟨h3, he⟩ := bx he
  obtain ⟨rfl, rfl⟩ := cg he
  exact ⟨eI.zip gd.hh D.Z D.N hg hy (iB h1.ok) (iB h2.ok) (h1.ev n env fa X A vars σ u σ1 gd e1) (by rw [← jl e5]; exact e2) (h2.ev n env fa X A vars r.2 v bf gd e3) (by rw [← jl e6]; exact e4), by rw [Ab]; exact Nat.le_trans (Nat.min_le_left ..) h3.1⟩
theorem BO {aq : List (Option Nat)} {elt it : E} {T : Ev.T} {ifs : List E} {n : Nat} {vars : af} {σ σ' : ae} {d : D} (h : ah Δ (n + 1) (.comp aq elt T it ifs) vars σ = some (d, σ')) :
  ∃ ds σ1 rs, ef Δ n it vars σ = some (ds, σ1) ∧ dD vars aq = true ∧ ds.length ≤ az ∧ d8 (fq T (fun vs σ => iD Δ n ifs vs σ) (fun vs σ => ah Δ n elt vs σ)) ds (cP vars aq) σ1 = some (rs, σ') ∧ d = .lst rs := by
 refine bk (show seq1 (ef Δ n it vars) (fun ds σ => if dD vars aq && decide (ds.length ≤ az) then (d8 (fq T (fun vs σ => iD Δ n ifs vs σ) (fun vs σ => ah Δ n elt vs σ)) ds (cP vars aq) σ).map fun p => (D.lst p.1, p.2) else none) σ = _ from h) fun ds σ1 e1 he => ?_
 obtain ⟨h1, he⟩ := bx he
 refine bT he fun q e2 e3 => ?_
 obtain ⟨rfl, rfl⟩ := Prod.mk.inj e3
 exact ⟨ds, σ1, q.1, e1, (aj h1).1, of_decide_eq_true (aj h1).2, e2, rfl⟩
theorem MX.comp {aq : List (Option Nat)} {elt it : E} {T : Ev.T} {ifs : List E} {sf t' tI : Expr} {tD : List Expr} {sc : Scope} {p : Pos} (dh : fG sc = true) (cD : dN nm sc.names = some aq) (ht : b9 sc.names T t' = true) (hk : kI it T = true)
  (hi : MX c Δ n0 nm it tI) (hf : c8 c Δ n0 sc.names ifs tD) (he : MX c Δ n0 sc.names elt sf) : MX c Δ n0 nm (.comp aq elt T it ifs) (.ListComp sf [⟨t', tI, tD, 0⟩] sc p) := by
 have hE := MX.fuel (c := c) (nm := nm) (n0 := n0) (x := .ListComp sf [⟨t', tI, tD, 0⟩] sc p) (e := .comp aq elt T it ifs) (Δ := Δ) fun n env fa X A vars σ d σ' gd h => by
  obtain ⟨ds, σ1, rs, h1, h2, h3, h4, rfl⟩ := BO h
  exact aA.comp gd.hh dh cD ht (yo hi.ok) (hi.it n _ _ _ env fa X A vars σ ds σ1 gd ht hk h1).1 h2 h3 (fun bJ bS X' vars σ b σ' h => hf.tests gd h) (fun bJ bS X' vars σ d σ' h => he.ev n bJ bS X' A vars σ d σ' gd h) h4
 refine ⟨rfl, hE, MX.yM hE (fun ξ => rfl) fun ξ ξ ξ => rfl, MX.mK hE fun ξ ξ ξ => rfl, fun ξ n env fa X A vars σ d σ' gd h => ?_⟩
 cases n with
 | zero => (first | exact au h | exact ai h | exact nomatch h)
 | succ n =>
  obtain ⟨ds, σ1, rs, h1, h2, h3, h4, rfl⟩ := BO h
  exact oV.comp gd.hh dh cD ht (yo hi.ok) (hi.it n _ _ _ env fa X A vars σ ds σ1 gd ht hk h1).1 h2 h3 (fun bJ bS X' vars σ b σ' h => hf.tests gd h) (fun bJ bS X' vars σ d σ' h => he.ev n bJ bS X' A vars σ d σ' gd h) h4
end
end Ev
end
section
namespace Ev
open PySem PySem.W PySem.Calls PyProof.Rows PySem.SeqAt
section
variable {C : Cc} {nm : Nm} {f g h : Expr → Bool} {fs : List Expr → Bool} {x : Expr} {P : Expr → Prop}
theorem IT {k : Const} {d d' : D} (e : nH k = some d') (h : D.beq d' d = true) : nH k = some d := by
 rw [e]
 cases k with
 | none => cases e; cases d <;> first | rfl | exact ai h
 | bool b => cases e; cases d <;> first | exact congrArg (fun z => some (D.bool z)) (eq_of_beq h) | exact ai h
 | int b => cases e; cases d <;> first | exact congrArg (fun z => some (D.int z)) (eq_of_beq h) | exact ai h
 | float b => cases e; cases d <;> first | exact congrArg (fun z => some (D.flt z)) (eq_of_beq h) | exact ai h
 | str b => cases e; cases d <;> first | exact congrArg (fun z => some (D.str z)) (eq_of_beq h) | exact ai h
 | _ => exact au e
theorem Ax {α : Type} {f : α → Bool} {o : Option α} (h : rL f o = true) : ∃ a, o = some a ∧ f a = true := by
 cases o with
 | some a => exact ⟨a, rfl, h⟩
 | none => exact ai h
theorem P6 {d : D} {s : List Nat} (h : zA d s = true) : d = .str s := by
 cases d with
 | str s' => exact congrArg D.str (eq_of_beq h).symm
 | _ => exact ai h
theorem Mh {d : D} (e : isLit C nm d x = true) (k : ∀ k n p, nH k = some d → P (.Constant k n p)) (k2 : ∀ y p z p' t, cu nm y = true → (y == C.cls) = true → C.cattrs.lookup z = some t → d = .str t → P (.Attribute (.Name y p) z p')) : P x := by
 cases x with
 | Constant c n p =>
  obtain ⟨d', hq, e⟩ := Ax (f := (D.beq · d)) e
  exact k c n p (IT hq e)
 | Attribute o z p' =>
  cases o with
  | Name y p =>
   have h := aj (show (cu nm y && y == C.cls && rL (zA d) (C.cattrs.lookup z)) = true from e)
   obtain ⟨t, hq, h2⟩ := Ax h.2
   exact k2 y p z p' t (aj h.1).1 (aj h.1).2 hq (P6 h2)
  | _ => exact ai e
 | _ => exact ai e
theorem Mw {i : Nat} (e : isVar nm i x = true) (k : ∀ y p, nI nm y = some i → P (.Name y p)) : P x := by
 cases x with
 | Name y p => exact k y p (eq_of_beq e)
 | _ => exact ai e
theorem L6 {op : Operator} (e : Dw op f g x = true) (k : ∀ a b p, f a = true → g b = true → P (.BinOp a op b p)) : P x := by
 cases x with
 | BinOp a o b p =>
  have h := aj (show (decide (o = op) && (f a && g b)) = true from e)
  exact of_decide_eq_true h.1 ▸ k a b p (aj h.2).1 (aj h.2).2
 | _ => exact ai e
theorem Mn (e : DL f g x = true) (k : ∀ a b p' p, f a = true → g b = true → P (.BinOp (.List [a] p') .Mult b p)) : P x := by
 cases x with
 | BinOp a o b p =>
  cases a with
  | List es p' =>
   cases es with
   | nil => exact ai e
   | cons a es =>
   cases es with
   | cons a2 es => exact ai e
   | nil =>
    have h := aj (show (decide (o = .Mult) && (f a && g b)) = true from e)
    exact (of_decide_eq_true h.1).symm ▸ k a b p' p (aj h.2).1 (aj h.2).2
  | _ => exact ai e
 | _ => exact ai e
theorem Mv {op : UnaryOp} (e : DU op f x = true) (k : ∀ a p, f a = true → P (.UnaryOp op a p)) : P x := by
 cases x with
 | UnaryOp o a p =>
  have h := aj (show (decide (o = op) && f a) = true from e)
  exact of_decide_eq_true h.1 ▸ k a p h.2
 | _ => exact ai e
theorem xH {op : BoolOp} (e : isBool op f g x = true) (k : ∀ a b p, f a = true → g b = true → P (.BoolOp op [a, b] p)) : P x := by
 cases x with
 | BoolOp o es p =>
  cases es with
  | nil => exact ai e
  | cons a es =>
  cases es with
  | nil => exact ai e
  | cons b es =>
  cases es with
  | cons b2 es => exact ai e
  | nil =>
   have h := aj (show (decide (o = op) && (f a && g b)) = true from e)
   exact of_decide_eq_true h.1 ▸ k a b p (aj h.2).1 (aj h.2).2
 | _ => exact ai e
theorem DA {op : CmpOp} (e : xJ op f g x = true) (k : ∀ a b p, f a = true → g b = true → P (.Compare a [op] [b] p)) : P x := by
 cases x with
 | Compare a os bs p =>
  cases os with
  | nil => exact ai e
  | cons o os =>
  cases os with
  | cons o2 os => exact ai e
  | nil =>
  cases bs with
  | nil => exact ai e
  | cons b bs =>
  cases bs with
  | cons b2 bs => exact ai e
  | nil =>
   have h := aj (show (decide (o = op) && (f a && g b)) = true from e)
   exact of_decide_eq_true h.1 ▸ k a b p (aj h.2).1 (aj h.2).2
 | _ => exact ai e
theorem Mg (e : DG f g h x = true) (k : ∀ a b d p, f a = true → g b = true → h d = true → P (.IfExp a b d p)) : P x := by
 cases x with
 | IfExp a b d p =>
  have q := aj (show (f a && (g b && h d)) = true from e)
  exact k a b d p q.1 (aj q.2).1 (aj q.2).2
 | _ => exact ai e
theorem Mu (e : isTup fs x = true) (k : ∀ es n p, fs es = true → P (.Tuple es n p)) : P x := by
 cases x with
 | Tuple es n p => exact k es n p e
 | _ => exact ai e
theorem Mi (e : DJ fs x = true) (k : ∀ es p, fs es = true → P (.List es p)) : P x := by
 cases x with
 | List es p => exact k es p e
 | _ => exact ai e
theorem Mf (e : DF f g x = true) (k : ∀ a b p, f a = true → g b = true → P (.Subscript a b p)) : P x := by
 cases x with
 | Subscript a b p => exact k a b p (aj e).1 (aj e).2
 | _ => exact ai e
theorem Ms {g1 g2 g3 : Option Expr → Bool} (e : DP f g1 g2 g3 x = true) (k : ∀ a l u s p' p, f a = true → g1 l = true → g2 u = true → g3 s = true → P (.Subscript a (.Slice l u s p') p)) : P x := by
 cases x with
 | Subscript a b p =>
  cases b with
  | Slice l u s p' =>
   have q := aj (show (f a && (g1 l && (g2 u && g3 s))) = true from e)
   have q2 := aj q.2
   exact k a l u s p' p q.1 q2.1 (aj q2.2).1 (aj q2.2).2
  | _ => exact ai e
 | _ => exact ai e
theorem L5 {i : Nat} (e : Dv i f x = true) (k : ∀ a y p, fg a = true → iK y = some i → f a = true → P (.Attribute a y p)) : P x := by
 cases x with
 | Attribute a y p =>
  have q := aj (show (fg a && (iK y == some i && f a)) = true from e)
  exact k a y p q.1 (eq_of_beq (aj q.2).1) (aj q.2).2
 | _ => exact ai e
theorem tF {m : Str → Bool} (e : qo m f fs x = true) (k : ∀ o y ap args p, fg o = true → (ap.endLine == p.line) = true → args.length < 29 → m y = true → f o = true → fs args = true → P (.Call (.Attribute o y ap) args [] p)) : P x := by
 cases x with
 | Call o args ks p =>
  cases o with
  | Attribute o y ap =>
   cases ks with
   | nil =>
    have q := aj (show ((fg o && ap.endLine == p.line) && (decide (args.length < 29) && (m y && (f o && fs args)))) = true from e)
    have q2 := aj q.2
    have q3 := aj q2.2
    exact k o y ap args p (aj q.1).1 (aj q.1).2 (of_decide_eq_true q2.1) q3.1 (aj q3.2).1 (aj q3.2).2
   | cons k ks => exact ai e
  | _ => exact ai e
 | _ => exact ai e
theorem jS {q : Str → Bool} (e : isCall nm q fs x = true) (k : ∀ y p' args p, cu nm y = true → q y = true → fs args = true → P (.Call (.Name y p') args [] p)) : P x := by
 cases x with
 | Call o args ks p =>
  cases o with
  | Name y p' =>
   cases ks with
   | nil =>
    have h := aj (show (cu nm y && (q y && fs args)) = true from e)
    exact k y p' args p h.1 (aj h.2).1 (aj h.2).2
   | cons k ks => exact ai e
  | _ => exact ai e
 | _ => exact ai e
theorem Ma {aq : List (Option Nat)} {T : Ev.T} {pR : Nm → List Expr → Bool} {pQ : Nm → Expr → Bool} {qm : Bool} (e : DB nm aq T f pR pQ qm x = true) (k : ∀ elt t it ifs sc p, fG sc = true → qm = true →
  dN nm sc.names = some aq → b9 sc.names T t = true → f it = true → pR sc.names ifs = true → pQ sc.names elt = true → P (.ListComp elt [⟨t, it, ifs, 0⟩] sc p)) : P x := by
 cases x with
 | ListComp elt gs sc p =>
  cases gs with
  | nil => exact ai e
  | cons g gs =>
  cases g with
  | mk t it ifs n =>
  cases gs with
  | cons g2 gs => exact ai e
  | nil =>
   have h := aj (show ((decide (n = 0) && fG sc) && (qm && ((dN nm sc.names == some aq && b9 sc.names T t) && (f it && (pR sc.names ifs && pQ sc.names elt))))) = true from e)
   have h2 := aj h.2
   have h3 := aj h2.2
   have h4 := aj h3.2
   exact (of_decide_eq_true (aj h.1).1).symm ▸ k elt t it ifs sc p (aj h.1).2 h2.1 (eq_of_beq (aj h3.1).1) (aj h3.1).2 h4.1 (aj h4.2).1 (aj h4.2).2
 | _ => exact ai e
end
section
variable {c : Cx} {C : Cc} {Δ : Dl} {n0 : Nat}
structure oU (c : Cx) (C : Cc) (Δ : Dl) (n0 n : Nat) : Prop where
 e : ∀ e nm x, bw C n e nm x = true → MX c Δ n0 nm e x
 s : ∀ es nm xs, dY C n es nm xs = true → c8 c Δ n0 nm es xs
 o : ∀ o nm x, pC C n o nm x = true → MO c Δ n0 nm o x
theorem Iv {n : Nat} (ih : oU c C Δ n0 n) : ∀ es nm xs, dY C (n + 1) es nm xs = true → c8 c Δ n0 nm es xs := by
 intro es nm xs h
 cases es with
 | nil => cases xs with
  | nil => exact rfl
  | cons x xs => exact ai h
 | cons e es => cases xs with
  | nil => exact ai h
  | cons x xs =>
   have h := aj (show (bw C n e nm x && dY C n es nm xs) = true from h)
   exact ⟨x, xs, rfl, ih.e _ _ _ h.1, ih.s _ _ _ h.2⟩
theorem IA {n : Nat} (ih : oU c C Δ n0 n) : ∀ o nm x, pC C (n + 1) o nm x = true → MO c Δ n0 nm o x := by
 intro o nm x h
 cases o with
 | none => cases x with
  | none => exact MO.none
  | some x => exact ai h
 | some e => cases x with
  | none => exact ai h
  | some x => exact MO.some (ih.e e nm x h)
theorem Iu (D : ck c C Δ n0) {n : Nat} (qi : ∀ m, m ≤ n → oU c C Δ n0 m) : ∀ e nm x, bw C (n + 1) e nm x = true → MX c Δ n0 nm e x := by
 intro e nm x h
 have ih := qi n (Nat.le_refl n)
 have h := (aj (show (gz x && _) = true from h)).2
 cases e with
 | lit d => exact Mh h (fun k n p h1 => .const D h1) fun y p z p' t h1 h2 h3 h4 => h4 ▸ .cat D h1 h2 h3
 | var i => exact Mw h fun y p h1 => .var h1
 | bin op a b => exact L6 h fun y z p h1 h2 => .bin D (ih.e _ _ _ h1) (ih.e _ _ _ h2)
 | rep a b => exact Mn h fun y z p' p h1 h2 => .rep (ih.e _ _ _ h1) (ih.e _ _ _ h2)
 | not a => exact Mv h fun y p h1 => .not (ih.e _ _ _ h1)
 | both a b => exact xH h fun y z p h1 h2 => .both (ih.e _ _ _ h1) (ih.e _ _ _ h2)
 | either a b => exact xH h fun y z p h1 h2 => .either (ih.e _ _ _ h1) (ih.e _ _ _ h2)
 | cmp op a b => exact DA h fun y z p h1 h2 => .cmp D (ih.e _ _ _ h1) (ih.e _ _ _ h2)
 | ite a b d => exact Mg h fun y z u p h1 h2 h3 => .ite (ih.e _ _ _ h1) (ih.e _ _ _ h2) (ih.e _ _ _ h3)
 | tup es => exact Mu h fun xs k p h1 => .tup (ih.s _ _ _ h1)
 | lst es => exact Mi h fun xs p h1 => .lst (ih.s _ _ _ h1)
 | idx a b => exact Mf h fun y z p h1 h2 => .idx (ih.e _ _ _ h1) (ih.e _ _ _ h2)
 | eT a l u s => exact Ms h fun y l' u' s' p' p h1 h2 h3 h4 => .eT (ih.e _ _ _ h1) (ih.o _ _ _ h2) (ih.o _ _ _ h3) (ih.o _ _ _ h4)
 | attr a k => exact L5 h fun y z p h1 h2 h3 => .attr D h1 h2 (ih.e _ _ _ h3)
 | call f es => exact jS h fun y p' args p h1 h2 h3 => .call D h1 (eq_of_beq h2) (ih.s _ _ _ h3)
 | eN f o es =>
  exact jS h fun y p' args p h1 h2 h3 => by
   obtain ⟨z, xs, rfl, h4, h5⟩ := ih.s _ _ _ h3
   exact .eN D h1 (eq_of_beq h2) h4 h5
 | bW f o es => exact tF h fun z m ap args p h1 h2 h3 h4 h5 h6 => bT (eq_of_beq h4) fun g h7 h8 => .bW D h1 h2 h3 h7 h8.symm (ih.e _ _ _ h5) (ih.s _ _ _ h6)
 | new a =>
  exact jS h fun y p' args p h1 h2 h3 => by
   obtain ⟨z, rfl, h4⟩ := (ih.s _ _ _ h3).one
   exact .new D h1 (eq_of_beq h2) h4
 | bi b es => exact jS h fun y p' args p h1 h2 h3 => .bi D h1 (eq_of_beq h2) (ih.s _ _ _ h3)
 | range es => exact jS h fun y p' args p h1 h2 h3 => .range D h1 (eq_of_beq h2) (ih.s _ _ _ h3)
 | enum a =>
  exact jS h fun y p' args p h1 h2 h3 => by
   obtain ⟨z, rfl, h4⟩ := (ih.s _ _ _ h3).one
   exact .enum D h1 (eq_of_beq h2) h4
 | zip a b =>
  exact jS h fun y p' args p h1 h2 h3 => by
   obtain ⟨z, z2, rfl, h4, h5⟩ := (ih.s _ _ _ h3).two
   exact .zip D h1 (eq_of_beq h2) h4 h5
 | kJ es =>
  exact jS h fun y p' args p h1 h2 h3 => by
   match args, h3 with
   | [x], h3 => exact jS (P := fun x => MX c Δ n0 nm (.kJ es) (.Call (.Name y p') [x] [] p)) (aj (show (gz x && isCall nm (fun y => y == cU .range) (dY C n es nm) x) = true from h3)).2 fun y2 q' Rb q h4 h5 h6 => .kJ D h1 (eq_of_beq h2) h4 (eq_of_beq h5) (ih.s _ _ _ h6)
   | [], h3 => exact ai h3
   | _ :: _ :: _, h3 => exact ai h3
 | append o a =>
  exact tF h fun z m ap args p h1 h2 h3 h4 h5 h6 => by
   rw [eq_of_beq h4]
   obtain ⟨x, rfl, h7⟩ := (ih.s _ _ _ h6).one
   exact .append h1 h2 (ih.e _ _ _ h5) h7
 | pop o =>
  exact tF h fun z m ap args p h1 h2 h3 h4 h5 h6 => by
   rw [eq_of_beq h4, show args = [] from ih.s _ _ _ h6]
   exact .pop h1 h2 (ih.e _ _ _ h5)
 | split o a =>
  exact tF h fun z m ap args p h1 h2 h3 h4 h5 h6 => by
   rw [eq_of_beq h4]
   obtain ⟨x, rfl, h7⟩ := (ih.s _ _ _ h6).one
   exact .split h1 h2 (ih.e _ _ _ h5) h7
 | comp aq elt t it ifs => exact Ma h fun sf t' tI tD sc p h1 h2 h3 h4 h5 h6 h7 => .comp h1 h3 h4 h2 (ih.e _ _ _ h5) (ih.s _ _ _ h6) (ih.e _ _ _ h7)
 | _ => exact ai h
theorem nD (D : ck c C Δ n0) : ∀ n, oU c C Δ n0 n := by
 intro n
 induction n using Nat.strongRecOn with
 | _ n ih =>
  cases n with
  | zero => exact ⟨fun e nm x h => ai h, fun e nm x h => ai h, fun e nm x h => ai h⟩
  | succ n =>
   have qi : ∀ m, m ≤ n → oU c C Δ n0 m := fun m hm => ih m (Nat.lt_succ_of_le hm)
   exact ⟨Iu D qi, Iv (qi n (Nat.le_refl n)), IA (qi n (Nat.le_refl n))⟩
end
end Ev
end
section
namespace Ev
open PySem PySem.W PySem.Calls PyProof.Rows PySem.SeqAt
section
variable {nm : Nm} {f g h : Expr → Bool} {fs gs : List Stmt → Bool} {ft : List Expr → Bool} {x : Stmt} {P : Stmt → Prop}
theorem Du (e : xG ft f x = true) (k : ∀ ts v p, o7 v = true → ft ts = true → f v = true → P (.Assign ts v p)) : P x := by
 cases x with
 | Assign ts v p =>
  have q := aj (show (o7 v && (ft ts && f v)) = true from e)
  exact k ts v p q.1 (aj q.2).1 (aj q.2).2
 | _ => exact ai e
theorem Mq {i : Nat} (e : DN i f g x = true) (k : ∀ o y p v p', iK y = some i → f o = true → g v = true → P (.Assign [.Attribute o y p] v p')) : P x := by
 cases x with
 | Assign ts v p' =>
  cases ts with
  | nil => exact ai e
  | cons t ts =>
   cases t with
   | Attribute o y p =>
    cases ts with
    | nil =>
     have q := aj (show (iK y == some i && (f o && g v)) = true from e)
     exact k o y p v p' (eq_of_beq q.1) (aj q.2).1 (aj q.2).2
    | cons t2 ts => exact ai e
   | _ => exact ai e
 | _ => exact ai e
theorem Mr (e : DO f g h x = true) (k : ∀ o i p v p', f o = true → g i = true → h v = true → P (.Assign [.Subscript o i p] v p')) : P x := by
 cases x with
 | Assign ts v p' =>
  cases ts with
  | nil => exact ai e
  | cons t ts =>
   cases t with
   | Subscript o i p =>
    cases ts with
    | nil =>
     have q := aj (show (f o && (g i && h v)) = true from e)
     exact k o i p v p' q.1 (aj q.2).1 (aj q.2).2
    | cons t2 ts => exact ai e
   | _ => exact ai e
 | _ => exact ai e
theorem Mc (e : DE f x = true) (k : ∀ a b d p p', f (.Call a b d p) = true → P (.Expr (.Call a b d p) p')) : P x := by
 cases x with
 | Expr y p' =>
  cases y with
  | Call a b d p => exact k a b d p p' e
  | _ => exact ai e
 | _ => exact ai e
theorem Mp (e : DM f x = true) (k : ∀ v p, f v = true → P (.Return (some v) p)) : P x := by
 cases x with
 | Return o p =>
  cases o with
  | some v => exact k v p e
  | none => exact ai e
 | _ => exact ai e
theorem DH (e : xM f fs gs x = true) (k : ∀ c a b p, f c = true → fs a = true → gs b = true → P (.If c a b p)) : P x := by
 cases x with
 | If c a b p =>
  have q := aj (show (f c && (fs a && gs b)) = true from e)
  exact k c a b p q.1 (aj q.2).1 (aj q.2).2
 | _ => exact ai e
theorem Mx (e : DV f fs x = true) (k : ∀ c b p, f c = true → fs b = true → P (.While c b [] p)) : P x := by
 cases x with
 | While c b o p =>
  cases o with
  | nil => exact k c b p (aj e).1 (aj e).2
  | cons t ts => exact ai e
 | _ => exact ai e
theorem Me {t : Ev.T} (e : xK nm t f fs x = true) (k : ∀ y it b p, b9 nm t y = true → f it = true → fs b = true → P (.For y it b [] p)) : P x := by
 cases x with
 | For y it b o p =>
  cases o with
  | nil =>
   have q := aj (show (b9 nm t y && (f it && fs b)) = true from e)
   exact k y it b p q.1 (aj q.2).1 (aj q.2).2
  | cons t ts => exact ai e
 | _ => exact ai e
theorem L7 (e : Dy x = true) (k : ∀ p, P (.Break p)) : P x := by
 cases x with
 | Break p => exact k p
 | _ => exact ai e
theorem Mb (e : DC x = true) (k : ∀ p, P (.Continue p)) : P x := by
 cases x with
 | Continue p => exact k p
 | _ => exact ai e
end
theorem GD {v : Expr} (ok : gz v = true) (h : mC v = false) : ∀ t line env, swapsWith v t line env = pure false := by
 cases v <;> first | exact fun ξ ξ ξ => rfl | exact ai ok | exact ai h.symm
theorem Qn {v : Expr} (h : mC v = true) (t : Expr) (line : Nat) (env : Env) : ∃ b, swapsWithSole [t] v line env = pure b := by
 cases v with
 | ListComp elt gs sc p =>
  cases t with
  | Name y q => exact ⟨_, rfl⟩
  | _ => exact ⟨false, rfl⟩
 | _ => exact ai h
theorem Qm {ts : List Expr} {v : Expr} {line : Nat} {env : Env} (ok : gz v = true) : swapsWithSole ts v line env = pure false ∨ (swapsWithSole ts v line env = pure true ∧ mC v = true ∧ ∃ t, ts = [t]) := by
 cases ts with
 | nil => exact .inl rfl
 | cons t ts => cases ts with
  | cons t2 ts => exact .inl rfl
  | nil =>
   cases hl : mC v with
   | false => exact .inl (GD ok hl (some t) line env)
   | true =>
    obtain ⟨b, hb⟩ := Qn hl t line env
    cases b with
    | false => exact .inl hb
    | true => exact .inr ⟨hb, rfl, t, rfl⟩
section
variable {c : Cx} {C : Cc} {Δ : Dl} {n0 : Nat} {nm : Nm}
noncomputable def MS (c : Cx) (Δ : Dl) (n0 : Nat) (nm : Nm) (s : S) (x : Stmt) : Prop := ∀ n env fa X A vars σ fl vars' σ', Good n0 A → bK Δ n s vars σ = some (fl, vars', σ') → bh c nm X env fa A (exec x env) vars σ fl vars' σ'
noncomputable def gJ (c : Cx) (Δ : Dl) (n0 : Nat) (nm : Nm) (ss : List S) (xs : List Stmt) : Prop := ∀ n env fa X A vars σ fl vars' σ', Good n0 A → aJ Δ n ss vars σ = some (fl, vars', σ') → bh c nm X env fa A (execs xs env) vars σ fl vars' σ'
theorem MS.fuel {s : S} {x : Stmt} (h : ∀ n env fa X A vars σ fl vars' σ', Good n0 A → bK Δ (n + 1) s vars σ = some (fl, vars', σ') → bh c nm X env fa A (exec x env) vars σ fl vars' σ') : MS c Δ n0 nm s x := @fun aa => @(match aa with
 | 0 => @fun env fa X A vars σ fl vars' σ' gd he => au he
 | n + 1 => @fun env fa X A vars σ fl vars' σ' gd he => h n env fa X A vars σ fl vars' σ' gd he)
theorem iY {α β γ : Type} {a a' : α} {b b' : β} {d d' : γ} (h : some (a, b, d) = some (a', b', d')) : a = a' ∧ b = b' ∧ d = d' := ⟨(cg h).1, congrArg (·.2.1) (Option.some.inj h), congrArg (·.2.2) (Option.some.inj h)⟩
theorem MS.asg {Ts : List Ev.T} {e : E} {ts : List Expr} {v : Expr} {p : Pos} (xe : o7 v = true) (ht : jD nm Ts ts = true) (hv : MX c Δ n0 nm e v) : MS c Δ n0 nm (.asg Ts e) (.Assign ts v p) :=
 MS.fuel fun n env fa X A vars σ fl vars' σ' gd he => by
  refine bk (show seq1 (ah Δ n e vars) (fun d σ => (iJ Ts d vars).map fun vars => (aI.next, vars, σ)) σ = _ from he) fun d σ1 e1 he => bT he fun bG e2 e3 => ?_
  obtain ⟨rfl, e4⟩ := Prod.mk.inj e3
  obtain ⟨rfl, rfl⟩ := Prod.mk.inj e4
  intro F ρ s Q Ex w post
  rcases Qm (ts := ts) (line := p.line) (env := env) hv.ok with hs | ⟨hs, hl, t, rfl⟩
  ·exact bh.asg gd.hh w.f.kindF xe ht hs (hv.ev n env fa X A vars σ d σ1 gd e1) e2 F ρ s Q Ex w post
  ·cases Ts with
   | nil => exact ai ht
   | cons T Ts =>
    have h2 := aj (show (b9 nm T t && jD nm Ts []) = true from ht)
    cases Ts with
    | cons T2 Ts => exact ai h2.2
    | nil => exact bh.HK gd.hh h2.1 hs (hv.us hl n env fa X A vars σ d σ1 gd e1) e2 F ρ s Q Ex w post
theorem MS.setAttr {o v : E} {k : Nat} {z u : Expr} {y : Str} {p p' : Pos} (D : ck c C Δ n0) (hk : iK y = some k) (ho : MX c Δ n0 nm o z) (hv : MX c Δ n0 nm v u) : MS c Δ n0 nm (.setAttr o k v) (.Assign [.Attribute z y p] u p') :=
 MS.fuel fun n env fa X A vars σ fl vars' σ' gd he => by
  refine bk (show seq1 (ah Δ n v vars) (fun d => seq1 (ah Δ n o vars) (zj k vars d)) σ = _ from he) fun d σ1 e1 he => bk he fun x σ2 e2 he => aO he fun q e3 he => ?_
  obtain ⟨h1, he⟩ := bx he
  obtain ⟨rfl, rfl, rfl⟩ := iY he
  obtain ⟨rfl, e4⟩ := Dn e3
  exact bh.setAttr D.Z D.cls D.cset (hv.ev n env fa X A vars σ d σ1 gd e1) (ho.ev n env fa X A vars σ1 _ σ2 gd e2) hk e4 h1
theorem MS.dJ {o i v : E} {z w u : Expr} {p p' : Pos} (ho : MX c Δ n0 nm o z) (hi : MX c Δ n0 nm i w) (hv : MX c Δ n0 nm v u) : MS c Δ n0 nm (.dJ o i v) (.Assign [.Subscript z w p] u p') :=
 MS.fuel fun n env fa X A vars σ fl vars' σ' gd he => by
  refine bk (show seq1 (ah Δ n v vars) (fun d => seq1 (ah Δ n o vars) fun x => seq1 (ah Δ n i vars) (uF vars d x)) σ = _ from he) fun d σ1 e1 he => bk he fun x σ2 e2 he => bk he fun y bf e3 he => aO he fun q e4 he => aO he fun j e5 he => ?_
  obtain ⟨h1, he⟩ := bx he
  obtain ⟨rfl, rfl, rfl⟩ := iY he
  obtain ⟨rfl, e6⟩ := tW e4
  rw [jh e5] at e3
  exact bh.dJ (hv.ev n env fa X A vars σ d σ1 gd e1) (ho.ev n env fa X A vars σ1 _ σ2 gd e2) (hi.ev n env fa X A vars σ2 _ bf gd e3) e6 h1
theorem Mk {d : D} (h : tG d = true) : d = .none := by cases d <;> first | rfl | exact ai h
theorem MS.expr {e : E} {a : Expr} {b : List Expr} {d : List Keyword} {p p' : Pos} (hv : MX c Δ n0 nm e (.Call a b d p)) : MS c Δ n0 nm (.expr e) (.Expr (.Call a b d p) p') :=
 MS.fuel fun n env fa X A vars σ fl vars' σ' gd he => by
  refine bk (show seq1 (ah Δ n e vars) (fun d σ => if tG d then some (aI.next, vars, σ) else none) σ = _ from he) fun d σ1 e1 he => ?_
  obtain ⟨h1, he⟩ := bx he
  obtain ⟨rfl, rfl, rfl⟩ := iY he
  rw [Mk h1] at e1
  intro F ρ s Q Ex w post
  exact bh.expr (hv.ev n env fa X A vars σ _ σ1 gd e1) (by unfold interactive; rw [w.f.kindF]; rfl) rfl F ρ s Q Ex w post
theorem MS.ret {e : E} {v : Expr} {p : Pos} (hv : MX c Δ n0 nm e v) : MS c Δ n0 nm (.ret e) (.Return (some v) p) :=
 MS.fuel fun n env fa X A vars σ fl vars' σ' gd he => by
  refine bk (show seq1 (ah Δ n e vars) (fun d σ => (Ev.cS σ d).map fun p => (aI.ret p.1, vars, p.2)) σ = _ from he) fun d σ1 e1 he => bT he fun q e2 e3 => ?_
  obtain ⟨rfl, rfl, rfl⟩ := iY (congrArg some e3)
  exact bh.ret (hv.ev n env fa X A vars σ d σ1 gd e1) e2
theorem MS.ite {e : E} {a b : List S} {v : Expr} {xs ys : List Stmt} {p : Pos} (hv : MX c Δ n0 nm e v) (ha : gJ c Δ n0 nm a xs) (hb : gJ c Δ n0 nm b ys) : MS c Δ n0 nm (.ite e a b) (.If v xs ys p) :=
 MS.fuel fun n env fa X A vars σ fl vars' σ' gd he => by
  refine bk (show seq1 (aX Δ n e vars) (fun t σ => if t then aJ Δ n a vars σ else aJ Δ n b vars σ) σ = _ from he) fun t σ1 e1 he => ?_
  refine bh.ite (hv.tr n env fa X A vars σ t σ1 gd e1) (fun ht => ?_) fun ht => ?_
  ·subst ht; exact ha n env fa X A vars σ1 fl vars' σ' gd he
  ·subst ht; exact hb n env fa X A vars σ1 fl vars' σ' gd he
theorem MS.wh {e : E} {b : List S} {v : Expr} {xs : List Stmt} {p : Pos} (hv : MX c Δ n0 nm e v) (hb : gJ c Δ n0 nm b xs) : MS c Δ n0 nm (.wh e b) (.While v xs [] p) :=
 MS.fuel fun n env fa X A vars σ fl vars' σ' gd he =>
  bh.wh (fun vars σ v σ' h => hv.tr n env fa X A vars σ v σ' gd h) (fun vars σ fl vars' σ' h => hb n env fa X A vars σ fl vars' σ' gd h) (show eV (fun vars σ => aX Δ n e vars σ) (fun vars σ => aJ Δ n b vars σ) zY vars σ = _ from he)
theorem MS.for {t : Ev.T} {e : E} {b : List S} {y v : Expr} {xs : List Stmt} {p : Pos} (ht : b9 nm t y = true) (hk : kI e t = true) (hv : MX c Δ n0 nm e v) (hb : gJ c Δ n0 nm b xs) : MS c Δ n0 nm (.for t e b) (.For y v xs [] p) :=
 MS.fuel fun n env fa X A vars σ fl vars' σ' gd he => by
  refine bk (show seq1 (ef Δ n e vars) (fun ds σ => cC (fun d vars σ => (cz t d vars).bind fun vars => aJ Δ n b vars σ) ds vars σ) σ = _ from he) fun ds σ1 e1 he => ?_
  exact bh.forIn (g := fun vars σ => aJ Δ n b vars σ) gd.hh ht (yo hv.ok) (hv.it n nm y t env fa X A vars σ ds σ1 gd ht hk e1).1 (fun X' vars σ fl vars' σ' h => hb n env fa X' A vars σ fl vars' σ' gd h) he
theorem MS.brk {p : Pos} : MS c Δ n0 nm .brk (.Break p) := MS.fuel fun n env fa X A vars σ fl vars' σ' gd he => by
 obtain ⟨rfl, rfl, rfl⟩ := iY (show some (aI.brk, vars, σ) = _ from he)
 exact bh.brk
theorem MS.cont {p : Pos} : MS c Δ n0 nm .cont (.Continue p) := MS.fuel fun n env fa X A vars σ fl vars' σ' gd he => by
 obtain ⟨rfl, rfl, rfl⟩ := iY (show some (aI.cont, vars, σ) = _ from he)
 exact bh.cont
theorem Jv {s : S} {ss : List S} {n : Nat} {vars vars' : af} {σ σ' : ae} {fl : aI} (h : aJ Δ (n + 1) (s :: ss) vars σ = some (fl, vars', σ')) :
  (∃ v1 σ1, bK Δ n s vars σ = some (.next, v1, σ1) ∧ aJ Δ n ss v1 σ1 = some (fl, vars', σ')) ∨ (fl ≠ .next ∧ bK Δ n s vars σ = some (fl, vars', σ')) := by
 have h' : (match bK Δ n s vars σ with | some (.next, vars, σ) => aJ Δ n ss vars σ | r => r) = some (fl, vars', σ') := h
 match hq : bK Δ n s vars σ, h' with
 | none, h' => exact au h'
 | some (.next, v1, σ1), h' => exact .inl ⟨v1, σ1, rfl, h'⟩
 | some (.brk, v1, σ1), h' => obtain ⟨rfl, rfl, rfl⟩ := iY h'; exact .inr ⟨(fun h => nomatch h), rfl⟩
 | some (.cont, v1, σ1), h' => obtain ⟨rfl, rfl, rfl⟩ := iY h'; exact .inr ⟨(fun h => nomatch h), rfl⟩
 | some (.ret d, v1, σ1), h' => obtain ⟨rfl, rfl, rfl⟩ := iY h'; exact .inr ⟨(fun h => nomatch h), rfl⟩
theorem gJ.nil : gJ c Δ n0 nm [] [] := fun n env fa X A vars σ fl vars' σ' gd he => by
 cases n with
 | zero => exact au he
 | succ n =>
  obtain ⟨rfl, rfl, rfl⟩ := iY (show some (aI.next, vars, σ) = _ from he)
  exact bh.nil
theorem gJ.cons {s : S} {ss : List S} {x : Stmt} {xs : List Stmt} (h : MS c Δ n0 nm s x) (hs : gJ c Δ n0 nm ss xs) : gJ c Δ n0 nm (s :: ss) (x :: xs) := fun n env fa X A vars σ fl vars' σ' gd he => by
 cases n with
 | zero => exact au he
 | succ n =>
  rcases Jv he with ⟨v1, σ1, h1, h2⟩ | ⟨h1, h2⟩
  ·exact bh.cons (h n env fa X A vars σ .next v1 σ1 gd h1) (hs n env fa X A v1 σ1 fl vars' σ' gd h2)
  ·exact bh.stop (h n env fa X A vars σ fl vars' σ' gd h2) h1
structure uU (c : Cx) (C : Cc) (Δ : Dl) (n0 n : Nat) : Prop where
 s : ∀ s nm x, lJ C n s nm x = true → MS c Δ n0 nm s x
 ss : ∀ ss nm xs, dQ C n ss nm xs = true → gJ c Δ n0 nm ss xs
theorem IB (D : ck c C Δ n0) {n : Nat} (ih : uU c C Δ n0 n) : ∀ s nm x, lJ C (n + 1) s nm x = true → MS c Δ n0 nm s x := by
 intro s nm x h
 have iE := nD D n
 cases s with
 | asg ts e => exact Du h fun zP v p h1 h2 h3 => .asg h1 h2 (iE.e _ _ _ h3)
 | setAttr o k e => exact Mq h fun z y p v p' h1 h2 h3 => .setAttr D h1 (iE.e _ _ _ h2) (iE.e _ _ _ h3)
 | dJ o i e => exact Mr h fun z w p v p' h1 h2 h3 => .dJ (iE.e _ _ _ h1) (iE.e _ _ _ h2) (iE.e _ _ _ h3)
 | expr e => exact Mc h fun a b d p p' h1 => .expr (iE.e _ _ _ h1)
 | ret e => exact Mp h fun v p h1 => .ret (iE.e _ _ _ h1)
 | ite c a b => exact DH h fun v xs ys p h1 h2 h3 => .ite (iE.e _ _ _ h1) (ih.ss _ _ _ h2) (ih.ss _ _ _ h3)
 | wh c b => exact Mx h fun v xs p h1 h2 => .wh (iE.e _ _ _ h1) (ih.ss _ _ _ h2)
 | «for» t it b =>
  have h := aj (show (kI it t && xK nm t (bw C n it nm) (dQ C n b nm) x) = true from h)
  exact Me h.2 fun y v xs p h1 h2 h3 => .for h1 h.1 (iE.e _ _ _ h2) (ih.ss _ _ _ h3)
 | brk => exact L7 h fun p => .brk
 | cont => exact Mb h fun p => .cont
theorem IC {n : Nat} (ih : uU c C Δ n0 n) : ∀ ss nm xs, dQ C (n + 1) ss nm xs = true → gJ c Δ n0 nm ss xs := by
 intro ss nm xs h
 cases ss with
 | nil => cases xs with
  | nil => exact gJ.nil
  | cons x xs => exact ai h
 | cons s ss => cases xs with
  | nil => exact ai h
  | cons x xs =>
   have h := aj (show (lJ C n s nm x && dQ C n ss nm xs) = true from h)
   exact gJ.cons (ih.s _ _ _ h.1) (ih.ss _ _ _ h.2)
theorem pD (D : ck c C Δ n0) : ∀ n, uU c C Δ n0 n := @fun aa => match aa with
 | 0 => ⟨fun s nm x h => ai h, fun s nm x h => ai h⟩
 | n + 1 => ⟨IB D (pD D n), IC (pD D n)⟩
theorem vp (D : ck c C Δ n0) {sc : Scope} {m k : Nat} {body : List Stmt} {b : List S} (hc : dQ C k b nm body = true) : BodyOk c n0 nm sc Δ m body b :=
 fun env fa A X vars σ fl vars' σ' ξ gd he => (pD D k).ss _ _ _ hc m env fa X A vars σ fl vars' σ' gd he
end
end Ev
end
section
namespace Ev
open PySem PySem.W PySem.Calls PyProof.Rows PySem.SeqAt
structure jx where
 fns : Nat → Option Fn
 muts : Nat → Option Fn
 init : Fn
noncomputable def yu (o : Option Fn) (f : Fn → Option D) : Option D := match o with
 | some g => f g
 | none => none
noncomputable def yx (o : Option Fn) (f : Fn → Option (D × List D)) : Option (D × List D) := match o with
 | some g => f g
 | none => none
noncomputable def iw (T : jx) (aH di : Bool) : Nat → Dl := @fun aa => match aa with
 | 0 => { fns := fun ξ ξ => none, muts := fun ξ ξ ξ => none, new := fun ξ => none, aH := aH, di := di }
 | k + 1 => { fns := fun i ds => yu (T.fns i) fun f => cM (iw T aH di k) 200 f ds, muts := fun i xs ds => yx (T.muts i) fun f => eR (iw T aH di k) 200 f xs ds, new := fun d => oJ (iw T aH di k) 200 T.init d, aH := aH, di := di }
noncomputable def Cq : Data → Option FuncData := @fun aa => match aa with
 | .func fd => some fd
 | υ1 => none
noncomputable def wm (o : Option Obj) : Option FuncData := o.bind fun o => Cq o.data
noncomputable def yw (o : Option FuncData) (f : FuncData → Bool) : Bool := match o with
 | some fd => f fd
 | none => false
noncomputable def fnAt (C : Cc) (K : Frag) (fn : Fn) (a : Addr) : Bool := yw (wm (K.lookup a)) fun fd => codeIn K fd.code fd.qualname && Cg C fn fd
noncomputable def nO (C : Cc) (K : Frag) (o : Option Fn) (a : Addr) : Bool := match o with
 | some fn => fnAt C K fn a
 | none => true
noncomputable def oE (o : Option (Option Value)) (f : Addr → Bool) : Bool := match o with
 | some (some (.ref a)) => f a
 | _ => false
noncomputable def allAt (f : Nat → Str → Bool) : Nat → List Str → Bool := @fun aa ak => match aa, ak with
 | υ1, [] => true
 | i, x :: r => f i x && allAt f (i + 1) r
noncomputable def qy {α : Type} (o : Option (Option α)) : Bool := match o with
 | some none => true
 | _ => false
noncomputable def Cz (C : Cc) (K : Frag) (o : Option Fn) (x : Str) : Bool := oE (nsIn K mainGlobals x) fun a => keepIn K (.ref a) && nO C K o a
noncomputable def NC (C : Cc) (K : Frag) (c : Addr) (o : Option Fn) (m : Str) : Bool := oE (findIn K (.ref c) m) fun g => isFn K (.ref g) && (plainGet K c m && ((List.range 5).all (fun k => !(attrName k == m)) && (keepIn K (.ref g) && nO C K o g)))
noncomputable def HM (K : Frag) (c : Addr) (k : Nat) : Bool := plainGet K c (attrName k) && (qy (findIn K (.ref c) (attrName k)) && qy (takerIn K c (attrName k)))
noncomputable def bis : List Bi := [.len, .max, .min, .round, .sum, .sorted, .list, .tuple, .range, .enumerate, .zip]
noncomputable def clsAt (C : Cc) (K : Frag) (T : jx) (c : Addr) : Bool := oE (nsIn K mainGlobals C.cls) fun a => decide (a = c) && (keepIn K (.ref c) && (makesIn K c && oE (findIn K (.ref c) "__init__") fun f => fnAt C K T.init f && decide (typeIn K (.ref f) = some (.type "function"))))
noncomputable def Dz (o : Option (Option Value)) (n : String) : Bool := match o with
 | some (some (.builtin m)) => m == n
 | _ => false
noncomputable def rU (K : Frag) (C : Addr) (y : Str) (x : List Nat) : Bool := match findCls K (.ref C) (.type "type") y with
 | some (.val (.str z _)) => z.cps.toList == x
 | _ => false
noncomputable def JJ (C : Cc) (K : Frag) (T : jx) : Bool := allAt (fun i x => Cz C K (T.fns i) x) 0 C.fns
noncomputable def NJ (C : Cc) (K : Frag) (T : jx) : Bool := allAt (fun i x => Cz C K (T.muts i) x) 0 C.muts
noncomputable def ND (C : Cc) (K : Frag) (T : jx) (c : Addr) : Bool := allAt (fun i m => NC C K c (T.fns (tZ + i)) m) 0 C.meths
noncomputable def OX (C : Cc) (K : Frag) (c : Addr) : Bool := bis.all (fun b => qy (nsIn K mainGlobals (cU b))) && (hasDictIn K c && ((List.range 5).all (HM K c) && (Dz (findIn K (.ref c) "__setattr__") "object.__setattr__" && (plainOver K c && (qy (nsIn K cStatics PySem.sharingNotToldKey) && (readsIn K c (.type "type") && C.cattrs.all fun p => rU K c p.1 p.2))))))
noncomputable def zx : Stmt → Bool := @fun aa => match aa with
 | .Assign υ1 v υ2 => !mC v
 | υ1 => false
structure rH (C : Cc) (K : Frag) (T : jx) (c : Addr) : Prop where
 fns : JJ C K T = true
 muts : NJ C K T = true
 meths : ND C K T c = true
 cls : clsAt C K T c = true
 rest : OX C K c = true
theorem E1 {o : Option FuncData} {f : FuncData → Bool} (h : yw o f = true) : ∃ fd, o = some fd ∧ f fd = true := by
 cases o with
 | none => exact ai h
 | some fd => exact ⟨fd, rfl, h⟩
theorem JQ {d : Data} {fd : FuncData} (h : Cq d = some fd) : d = .func fd := by
 cases d with
 | func g => exact congrArg Data.func (Option.some.inj h)
 | _ => exact au h
theorem Cr {o : Option Obj} {fd : FuncData} (h : wm o = some fd) : ∃ oc od sl, o = some ⟨oc, od, .func fd, sl⟩ :=
 aO h fun ob h1 h2 => by
  obtain ⟨oc, od, da, sl⟩ := ob
  rw [h1, show da = .func fd from JQ h2]
  exact ⟨oc, od, sl, rfl⟩
theorem oF {o : Option (Option Value)} {f : Addr → Bool} (h : oE o f = true) : ∃ a, o = some (some (.ref a)) ∧ f a = true := by
 cases o with
 | none => exact ai h
 | some o => cases o with
  | none => exact ai h
  | some v => cases v with
   | ref a => exact ⟨a, rfl, h⟩
   | _ => exact ai h
theorem t9 {α : Type} {o : Option (Option α)} (h : qy o = true) : o = some none := by
 cases o with
 | none => exact ai h
 | some o => cases o with
  | none => rfl
  | some v => exact ai h
theorem L8 {o : Option (Option Value)} {n : String} (h : Dz o n = true) : o = some (some (.builtin n)) := by
 cases o with
 | none => exact ai h
 | some o => cases o with
  | none => exact ai h
  | some v => cases v with
   | builtin a => rw [show a = n from eq_of_beq h]
   | _ => exact ai h
theorem rJ {f : Nat → Str → Bool} : ∀ {l : List Str} {k : Nat}, allAt f k l = true → ∀ {i : Nat} {x : Str}, l[i]? = some x → f (k + i) x = true := @fun aa ak aS bQ => @(match aa, ak, aS, bQ with
 | [], k, h, i => @fun x e => by rw [List.getElem?_nil] at e; exact au e
 | y :: r, k, h, 0 => @fun x e => by
  obtain rfl := Option.some.inj (show some y = some x from e)
  exact (aj h).1
 | y :: r, k, h, i + 1 => @fun x e => by
  have := rJ (aj (show (f k y && allAt f (k + 1) r) = true from h)).2 (i := i) (x := x) e
  rw [Nat.add_assoc, Nat.add_comm 1 i] at this
  exact this)
theorem wj {c : Cx} {C : Cc} {a : Addr} {fn : Fn} (h : fnAt C c.K fn a = true) : ∃ fd as body, rm c C a fd fn as body := by
 obtain ⟨fd, h1, h2⟩ := E1 h
 obtain ⟨h2, h3⟩ := aj h2
 obtain ⟨body, q⟩ := JI h3
 exact ⟨fd, _, body, q, Cr h1, h2⟩
theorem uG : ∀ {l : List Str} {x : Str} {i : Nat}, iC l x = some i → l[i]? = some x := @fun aa => @(match aa with
 | [] => @fun ξ ξ h => au h
 | y :: r => @fun x i h => by
  have h : (if (x == y) = true then some 0 else (iC r x).map (· + 1)) = some i := h
  by_cases q : (x == y) = true
  ·rw [if_pos q] at h; cases h; rw [eq_of_beq q]; rfl
  ·rw [if_neg q] at h; exact bT h fun j h1 h2 => by subst h2; exact (show r[j]? = some x from uG h1))
section
variable {c : Cx} {C : Cc} {T : jx}
theorem i8.le {n m : Nat} {v : Value} {sp : List D → Option D} (h : i8 c n v sp) (hl : n ≤ m) : i8 c m v sp :=
 fun ds d e A F X s vs Q Ex gd g r hp post => h ds d e A F X s vs Q Ex (gd.le hl) g r hp post
theorem j4.le {n m : Nat} {v : Value} {sp : List D → List D → Option (D × List D)} (h : j4 c n v sp) (hl : n ≤ m) : j4 c m v sp :=
 fun xs ds d ys e A F X s a vs Q Ex gd g r hp hq post => h xs ds d ys e A F X s a vs Q Ex (gd.le hl) g r hp hq post
theorem OJ {Δ : Dl} {o : Option Fn} {a : Addr} {n : Nat} (Z : cG c) (D : ck c C Δ n) (h : nO C c.K o a = true) : i8 c (n + 2) (.ref a) (fun ds => yu o fun f => cM Δ 200 f ds) := by
 cases o with
 | none => exact fun ds d e => au e
 | some fn =>
  obtain ⟨fd, as, body, fK⟩ := wj (c := c) h
  exact (pureOf (Δ := Δ) (m := 200) Z fK (vp D fK.ok.comp)).le (Nat.le_succ _)
theorem NH {Δ : Dl} {o : Option Fn} {a : Addr} {n : Nat} (Z : cG c) (D : ck c C Δ n) (h : nO C c.K o a = true) : j4 c (n + 2) (.ref a) (fun xs ds => yx o fun f => eR Δ 200 f xs ds) := by
 cases o with
 | none => exact fun xs ds d ys e => au e
 | some fn =>
  obtain ⟨fd, as, body, fK⟩ := wj (c := c) h
  exact (NI (Δ := Δ) (m := 200) Z fK (vp D fK.ok.comp)).le (Nat.le_succ _)
set_option tactic.hygienic true in
theorem N4 {K : Frag} {h : Heap} {a : Addr} {m : Str → Option Value} {n : Str} (X : K.In h) (G : h.Ns a m) (e : nsIn K a n = some none) : m n = none := by
 obtain ⟨o, es, ep, ho, hd, _, hf⟩ := G
 unfold nsIn at e
 split at e
 ·rename_i c d es' n' sl q
  have := X _ _ q
  rw [ho] at this
  cases this
  cases hd
  split at e
  ·cases e
  ·rename_i he
   rw [← hf]
   unfold nsFind findBy
   rw [← Array.find?_toList, he]
   rfl
 ·cases e
set_option tactic.hygienic true in
theorem II {K : Frag} {C : Addr} {y : Str} {x : List Nat} (h : rU K C y x = true) : ∃ t, findCls K (.ref C) (.type "type") y = some (.val (.str ⟨x.toArray⟩ t)) := by
 unfold rU at h
 split at h
 ·rename_i z t e
  obtain rfl := eq_of_beq h
  exact ⟨t, e⟩
 ·exact ai h
theorem lookup_all {l : List (Str × List Nat)} {f : Str × List Nat → Bool} (h : l.all f = true) : ∀ {y : Str} {x : List Nat}, l.lookup y = some x → f (y, x) = true := by
 induction l with
 | nil => exact fun e => au e
 | cons p r ih =>
  intro y x e
  obtain ⟨z, u⟩ := p
  have h := aj (show (f (z, u) && r.all f) = true from h)
  rw [List.lookup_cons] at e
  cases q : y == z with
  | true => rw [q] at e; cases e; rw [eq_of_beq q]; exact h.1
  | false => rw [q] at e; exact ih h.2 e
theorem Iq (Z : cG c) (hn : nsIn c.K mainGlobals C.cls = some (some (.ref c.C))) (hr : readsIn c.K c.C (.type "type") = true) (h : ∀ y x, C.cattrs.lookup y = some x → rU c.K c.C y x = true) {nm : Nm} {X : aT} {env : Env} {fa : List (Option Addr)} {A : Around} {vars : af} {σ : ae} {x : Str} {p : Pos} {y : Str} {pos : Pos} {t : List Nat}
  (hg : cu nm x = true) (hx : (x == C.cls) = true) (hl : C.cattrs.lookup y = some t) : aA c nm X env fa A (eval (.Attribute (.Name x p) y pos) env) vars σ (.str t) σ := by
 intro F ρ s Q Ex w post
 have nY : x = C.cls := eq_of_beq hx
 subst nY
 obtain ⟨p9, dF⟩ := kG hg
 obtain ⟨tk, hf⟩ := II (h y t hl)
 have he : eval (.Attribute (.Name C.cls p) y pos) env = (do
   let o ← attributeBase (.Name C.cls p) y env (eval (.Name C.cls p) env)
   standAt pos.atName
   let r ← holding [o] (getAttr o y true)
   letTemporaryGo (.Name C.cls p) o r
   pure r) := rfl
 rw [he, ve rfl]
 refine wpAny_bind (w.f.global Z w.g p9 hn dF (wpAny_bind (wpAny_standAt (wpAny_bind (wpAny_holding ?_)))))
 refine cls_value (w.g.K Z) hr hf rfl ?_
 refine wpAny_bind (wpAny_letTemporaryGo (wpAny_pure ?_))
 exact post F ρ _ _ aG.rfl (List.prefix_refl _) (w.keep .tok) (.str _ _)
structure o4 (c : Cx) : Prop where
 Z : cG c
 nb : ∀ {n : Str}, nsIn c.K cStatics n = some none → n = PySem.sharingNotToldKey → NoneBooked c.B
theorem Ia {f : Bi → Bool} (h : bis.all f = true) (b : Bi) : f b = true := List.all_eq_true.mp h b (by cases b <;> decide)
theorem Fv {f : Nat → Bool} (h : (List.range 5).all f = true) (k : Nat) (hk : k < 5) : f k = true := List.all_eq_true.mp h k (List.mem_range.mpr hk)
theorem tR {aH di : Bool} (H : rH C c.K T c.C) (S : o4 c) (hh : aH = true → c.pos = true) (hs : di = true → j7 c) : ∀ k, ck c C (iw T aH di k) (2 * k) := @fun aa => match aa with
 | 0 => lev_step H S hh hs (fun f o ξ => by exact fun ds d e => au e) (fun f o ξ => by exact fun xs ds d ys e => au e) (fun f ξ ξ ξ ξ => by exact fun x d e => au e)
 | k + 1 => by
  have ih := tR (aH := aH) (di := di) H S hh hs k
  exact lev_step H S hh hs (fun f a h => OJ S.Z ih h) (fun f a h => NH S.Z ih h) fun f h1 h2 h3 h4 => by
   obtain ⟨fd, as, body, fK⟩ := wj (c := c) h1
   exact newOf (Δ := iw T aH di k) (m := 200) S.Z fK (vp ih fK.ok.comp) h2 h3 h4
where
 lev_step {Δ : Dl} {n : Nat} (H : rH C c.K T c.C) (S : o4 c) (hh : Δ.aH = true → c.pos = true) (hs : Δ.di = true → j7 c)
   (hf : ∀ f a, nO C c.K (T.fns f) a = true → i8 c n (.ref a) (Δ.fns f)) (hm : ∀ f a, nO C c.K (T.muts f) a = true → j4 c n (.ref a) (Δ.muts f))
   (hn : ∀ f, fnAt C c.K T.init f = true → makesIn c.K c.C = true → findIn c.K (.ref c.C) "__init__" = some (some (.ref f)) → typeIn c.K (.ref f) = some (.type "function") → rC c n (.ref c.C) Δ.new) : ck c C Δ n := by
  have r1 := aj H.rest
  have r2 := aj r1.2
  have r3 := aj r2.2
  have r4 := aj r3.2
  have r5 := aj r4.2
  have r6 := aj r5.2
  have r7 := aj r6.2
  obtain ⟨a, c1, c2⟩ := oF H.cls
  have c2 := aj c2
  have c3 := aj c2.2
  have c4 := aj c3.2
  obtain ⟨f, c5, c6⟩ := oF c4.2
  have c6 := aj c6
  rw [of_decide_eq_true c2.1] at c1
  have vd := fun k hk => aj (Fv r3.1 k hk)
  refine { Z := S.Z, N := fun b => t9 (Ia r1.1 b), cls := ⟨r2.1, fun k hk => ⟨(vd k hk).1, none, t9 (aj (vd k hk).2).1, rfl⟩⟩, cset := ⟨L8 r4.1, r5.1, fun k hk => t9 (aj (vd k hk).2).2⟩, nb := S.nb (t9 r6.1) rfl, fn := fun x f h => ?_, mu := fun x f h => ?_, me := fun m f h => ?_, nw := ⟨_, c1, c3.1, hn f c6.1 c4.1 c5 (of_decide_eq_true c6.2)⟩, cat := fun nm X env fa A vars σ x p y pos t => Iq S.Z c1 r7.1 (fun y x e => lookup_all r7.2 e), aH := hh, di := hs }
  ·have q := rJ H.fns (uG h)
   rw [Nat.zero_add] at q
   obtain ⟨a, q1, q2⟩ := oF q
   exact ⟨_, q1, (aj q2).1, hf f a (aj q2).2⟩
  ·have q := rJ H.muts (uG h)
   rw [Nat.zero_add] at q
   obtain ⟨a, q1, q2⟩ := oF q
   exact ⟨_, q1, (aj q2).1, hm f a (aj q2).2⟩
  ·have q := rJ H.meths (uG h)
   rw [Nat.zero_add] at q
   obtain ⟨g, q1, q2⟩ := oF q
   have q3 := aj q2
   have q4 := aj q3.2
   have q5 := aj q4.2
   have q6 := aj q5.2
   exact ⟨g, q1, q3.1, q4.1, fun k hk => (Bool.not_eq_true' _).mp (Fv q5.1 k hk), q6.1, hf _ g q6.2⟩
end
end Ev
end
section
namespace Ev
open PySem PySem.W PySem.Calls PyProof.Rows PySem.SeqAt
noncomputable def Cx.warm (c : Cx) : Cx := { c with pos := true }
section
variable {c : Cx} {nm : Nm} {X : aT} {fa : List (Option Addr)} {σ σ' σ1 σ2 : ae} {env : Env} {vars vars' bG : af} {A : Around} {F F' : FM} {ρ ao : List (List Addr)} {s s' : Shared}
theorem G.warm (g : G c F X fa ρ σ s) (h : 0 < s.toks) : G c.warm F X fa ρ σ s where
 f := g.f
 x := g.x
 fx := g.fx
 base := g.base
 apart := g.apart
 own := g.own
 objs := g.objs
 len := g.len
 gens := g.gens
 bI := fun ξ => h
 ft := g.ft
 os := g.os
theorem cT.warm {h : Heap} (f : cT c nm F X ρ env fa vars h) : cT c.warm nm F X ρ env fa vars h where
 kindF := f.kindF
 glob := f.glob
 bi := f.bi
 nd := f.nd
 len := f.len
 l0 := f.l0
 kinds := f.kinds
 ns := f.ns
 cell := f.cell
 free := f.free
theorem W.warm (w : W c nm X env fa F ρ vars σ s) (h : 0 < s.toks) : W c.warm nm X env fa F ρ vars σ s := ⟨w.g.warm h, w.f.warm⟩
theorem zy {M : Model} {E : Value → Shared → Prop} {i : Nat} {x : Str} {v : Value} {d : D} {Q : Unit → Shared → Prop} (w : W c nm X env fa F ρ vars σ s) (hx : nm[i]? = some (x, .local)) (hv : Rv c.C F ρ v d)
  (h : ∀ s', W c nm X env fa F ρ (vars.set i (some d)) σ s' → 0 < s'.toks → Q () s') : wpAny M A (storeName env x v) Q E s := by
 have f := w.f
 have g := w.g
 have hl := iT f.nd hx
 have gr := f.kinds x _ hl
 have hi : i < vars.length := by rw [f.len]; exact (List.getElem?_eq_some_iff.mp hx).1
 obtain ⟨m, hn, hm⟩ := f.ns
 refine wpAny_storeName_local (gr.2 (by decide)) hn (fun h' kB cJ => ?_) (by rw [f.kindF]; rfl)
 have g' : G c F X fa ρ σ { s with heap := h', toks := s.toks + 1 } := g.zS f.l0 (fun b o hb e => (cJ.2 b hb).trans e) (let ⟨o, _, _, e, _⟩ := kB; ⟨o, e⟩) (Nat.le_succ _)
 refine h _ ⟨g', { f with len := by simpa using f.len, ns := ⟨_, kB, fun j y e h1 h2 => ?_⟩, cell := fun j y h1 => ?_, free := fun j y e h1 h2 => ?_ }⟩ (Nat.succ_pos _)
 ·by_cases fT : j = i
  ·subst fT
   rw [hx] at h1; cases h1
   rw [List.getElem?_set_self hi] at h2; cases h2
   exact ⟨v, by simp, hv⟩
  ·rw [List.getElem?_set_ne (Ne.symm fT)] at h2
   obtain ⟨u, e1, e2⟩ := hm j y e h1 h2
   refine ⟨u, ?_, e2⟩
   have : y ≠ x := fun q => fT (qw f.nd h1 (q ▸ hx))
   simp [this, e1]
 ·obtain ⟨a, w', q1, q2, ⟨o, q3, q4⟩, q5⟩ := f.cell j y h1
  have bH : j ≠ i := fun q => by subst q; rw [hx] at h1; cases h1
  have ha : a ≠ env.locals := fun q => by
   have := g.apart (.fr (j + 1)) (.fr 0) a trivial trivial (bV.mpr q2) (bV.mpr (q ▸ f.l0))
   cases this
  refine ⟨a, w', q1, q2, ⟨o, (cJ.2 a ha).trans q3, q4⟩, fun e he => ?_⟩
  rw [List.getElem?_set_ne (Ne.symm bH)] at he
  exact q5 e he
 ·have bH : j ≠ i := fun q => by subst q; rw [hx] at h1; cases h1
  rw [List.getElem?_set_ne (Ne.symm bH)] at h2
  exact f.free j y e h1 h2
end
section
variable {c : Cx} {C : Cc} {lA i4 : Dl} {n : Nat}
theorem Mt {nm : Nm} {i : Nat} {x : Str} {t : Expr} (h : b9 nm (.var i) t = true) (hx : nm[i]? = some (x, .local)) : ∃ p, t = .Name x p := by
 obtain ⟨y, p, rfl, h1⟩ := tH h
 obtain ⟨k, q1, _⟩ := rW h1
 have q3 := kN q1
 rw [hx] at q3; cases q3
 exact ⟨p, rfl⟩
noncomputable def Aw (h : Heap) : FM := ⟨fun a => h.get? a, fun ξ => none⟩
set_option tactic.hygienic true in
theorem HH {C : Addr} {F : FM} {ρ : List (List Addr)} {vs : List Value} {is : List Int} (h : IntsAre vs is) : aC C F ρ vs (is.map .int) := by
 induction h with
 | nil => exact .nil
 | cons => rename_i ih; exact .cons (.int _ _) ih
theorem J3 {n : Nat} (h : n ≤ 600) : Good n callerA := ⟨rfl, by show 1 + claimMargin + n < recursionLimit; have : claimMargin = 300 := rfl; have : recursionLimit = 1000 := rfl; lia, by show 4 + 10 * n + 100 < cLine; have : cLine = 9900 := rfl; lia⟩
end
end Ev
end
section
namespace Ev
open PySem PySem.W PySem.Calls PyProof.Rows PySem.SeqAt
theorem zL {α : Type} {less : Nat → Nat → Option Bool} {cmp : Nat → Nat → (Bool → Shared → Prop) → Shared → Prop} {G : α → Shared → Prop} {s : Shared} (hc : ∀ i j b (C : Bool → Shared → Prop), less i j = some b → C b s → cmp i j C s) : ∀ {t : KasT α} {a : α}, gZ less t = some a → G a s → t.kasWp cmp G s := @fun aa => @(match aa with
 | .ret a' => @fun a e h => by obtain rfl := Option.some.inj (show some a' = some a from e); exact h
 | .ask i j k => @fun a e h => aO (show (less i j).bind (fun b => gZ less (k b)) = some a from e) fun b h1 h2 => hc i j b _ h1 (zL hc h2 h))
section
variable {c : Cx} {F : FM} {ρ : List (List Addr)} {A : Around} {s : Shared} {w : World} {prog : Program}
theorem Of {p q : Int} {t u : Tok} {b : Bool} {Q : Bool → Shared → Prop} {E : Value → Shared → Prop} (h : Q (decide (p < q)) s) : wpAny (model prog w) A (oneLt' b (.int p t) (.int q u)) Q E s := by
 cases b with
 | true => exact oneLt_int h
 | false => exact kat_one _ _ (PyProof.Rows.lt_int h)
theorem D9 {Q : Bool → Shared → Prop} : ∀ {xs ys : List D} {vs ws : List Value} {b fin : Bool} (i : Nat), iS xs ys = some b → aC c.C F ρ vs xs → aC c.C F ρ ws ys → fin = decide (vs.length < ws.length) → Q b s → KatLex prog w A true fin Q (vs.zip ws) i s := @fun aa ak => @(match aa, ak with
 | [], [] => @fun vs ws b fin i e r1 r2 hf h => by
  obtain rfl := (r1.inv : vs = [])
  obtain rfl := (r2.inv : ws = [])
  subst hf
  obtain rfl := Option.some.inj (show some false = some b from e)
  exact kat_nil h
 | [], y :: ys => @fun vs ws b fin i e r1 r2 hf h => by
  obtain rfl := (r1.inv : vs = [])
  obtain ⟨v, us, rfl, _, _⟩ := r2.inv
  subst hf
  obtain rfl := Option.some.inj (show some true = some b from e)
  exact kat_nil h
 | x :: xs, [] => @fun vs ws b fin i e r1 r2 hf h => by
  obtain ⟨v, us, rfl, _, _⟩ := r1.inv
  obtain rfl := (r2.inv : ws = [])
  subst hf
  obtain rfl := Option.some.inj (show some false = some b from e)
  exact kat_nil h
 | x :: xs, y :: ys => @fun vs ws b fin i e r1 r2 hf h => by
  refine aO (show ((intD x).bind fun p => (intD y).bind fun q => if p == q then iS xs ys else some (decide (p < q))) = some b from e) fun p h1 e => aO e fun q h2 e => ?_
  obtain ⟨v, us, rfl, rv, qF⟩ := r1.inv
  obtain ⟨u, bj, rfl, ru, Ph⟩ := r2.inv
  rw [jh h1] at rv
  rw [jh h2] at ru
  obtain ⟨t, rfl⟩ := rv.inv
  obtain ⟨t', rfl⟩ := ru.inv
  refine kat_cons (wpAny_eqBool_int ?_)
  cases hb : p == q with
  | true =>
   rw [hb] at e
   exact kat_yes (D9 (i + 1) e qF Ph (by rw [hf]; exact decide_eq_decide.mpr Nat.succ_lt_succ_iff) h)
  | false =>
   rw [hb] at e
   exact kat_no (Of ((Option.some.inj (show some (decide (p < q)) = some b from e)) ▸ h)))
theorem zQ {x : D} {p : List D} (h : qO x = some p) : x = .tup p := by cases x <;> first | exact congrArg D.tup (Option.some.inj h) | exact au h
theorem Cv {vs : List Value} {i : Nat} {v : Value} (h : vs[i]? = some v) : vs.getD i Value.none = v := by rw [List.getD_eq_getElem?_getD, h]; rfl
theorem D8 {vs : List Value} {xs : List D} {i j : Nat} {b : Bool} {C : Bool → Shared → Prop} (g : ∀ a o, F.o a = some o → s.heap.get? a = some o) (r : aC c.C F ρ vs xs) (e : mG xs i j = some b) (h : C b s) : kas_ask prog w A (tuples' true) vs i j C s :=
 aO e fun p h1 e => aO e fun q h2 e => aO h1 fun x h1 h3 => aO h2 fun y h2 h4 => by
  obtain ⟨v, e1, rv⟩ := r.get h1
  obtain ⟨u, e2, ru⟩ := r.get h2
  rw [zQ h3] at rv
  rw [zQ h4] at ru
  obtain ⟨a, o, us, n, rfl, ho, hc, hd, hs⟩ := rv.inv
  obtain ⟨a', o', uN, n', rfl, lY, je, kq, cJ⟩ := ru.inv
  unfold kas_ask
  rw [Cv e1, Cv e2]
  exact kat_lt (g _ _ ho) hd (g _ _ lY) kq (D9 0 e hs cJ rfl h)
theorem zR (g : ∀ a o, F.o a = some o → s.heap.get? a = some o) : ∀ {xs : List D} {vs : List Value}, xs.all ku = true → aC c.C F ρ vs xs → ∃ fs, KatTups s.heap vs fs ∧ fs.length = vs.length ∧ ∀ v ∈ fs, ∃ i t, v = .int i t := @fun aa => @(match aa with
 | [] => @fun vs ξ r => by obtain rfl := (r.inv : vs = []); exact ⟨[], .nil, rfl, fun v m => absurd m List.not_mem_nil⟩
 | x :: xs => @fun vs h r => by
  obtain ⟨v, us, rfl, rv, qF⟩ := r.inv
  obtain ⟨h1, h2⟩ := aj (show (ku x && xs.all ku) = true from h)
  obtain ⟨fs, k1, k2, k3⟩ := zR g h2 qF
  unfold ku at h1
  cases e : (qO x).bind List.head? with
  | none => rw [e] at h1; exact ai h1
  | some y =>
   rw [e] at h1
   obtain ⟨i, hi⟩ := Option.isSome_iff_exists.mp h1
   refine aO e fun p q1 q2 => ?_
   rw [zQ q1] at rv
   obtain ⟨a, o, ws, n, rfl, ho, hc, hd, hs⟩ := rv.inv
   cases p with
   | nil => exact au q2
   | cons z p =>
    obtain rfl := Option.some.inj (show some z = some y from q2)
    obtain ⟨f, QW, rfl, rf, _⟩ := hs.inv
    rw [jh hi] at rf
    obtain ⟨t, rfl⟩ := rf.inv
    exact ⟨_ :: fs, .cons (g _ _ ho) hc hd rfl k1, congrArg (· + 1) k2, fun v m => (List.mem_cons.mp m).elim (fun e => ⟨i, t, e⟩) (k3 v)⟩)
theorem PU {a : Addr} {vs out : List Value} {n : Nat} {P : PySem.Fin → Shared → Prop} {E : Value → Shared → Prop} (ho : s.heap.get? a = some (seqObj "list" vs.toArray n)) (dM : vs.length < 64)
  (hk : vs.length < 2 ∧ out = vs ∨ 2 ≤ vs.length ∧ ∃ p : Array Nat, out = p.toList.map (fun i => vs.getD i Value.none) ∧ ∀ s' : Shared, (∀ b o, b ≠ a → s.heap.get? b = some o → s'.heap.get? b = some o) → ∀ G : Array Nat → Shared → Prop, G p s' → wpAny (model prog w) A (keyKind' vs.toArray) (fun κ kT => (kas_sort vs.length).kasWp (kas_ask prog w A κ vs) G kT) (fun ξ ξ => False) s')
  (h : P (.done (.ret .none)) { s with heap := sortedHeap s.heap a vs out.toArray }) : wpAny (model prog w) A (Builtin.«list.sort» ⟨[.ref a], []⟩) P E s := by
 have ha : a < s.heap.objs.size := Heap.lt_size ho
 have z0 : vs.toArray.size ≤ sizeLine := by rw [List.size_toArray, sizeLine_eq]; lia
 obtain ⟨e1, qd⟩ : ∃ e1, (s.heap.update a (Obj.mapSeq fun ξ => #[])).get? a = some (seqObj "list" #[] e1) := ⟨_, get?_update_seq ho (fun ξ => #[])⟩
 have CS : (((s.heap.update a (Obj.mapSeq fun ξ => #[])).push (seqObj "tuple" vs.toArray 0)).push (seqObj "list" #[] 0)).get? a = some (seqObj "list" #[] e1) := Heap.get?_push_of_some _ (Heap.get?_push_of_some _ qd)
 rw [list_sort_plain]
 refine wpAny_bind (listItems_at ho rfl (wpAny_bind (listUpdate_at ho rfl (wpAny_bind (seqEpoch_at qd rfl (wpAny_bind (wpAny_newTuple (wpAny_bind (wpAny_newList (wpAny_holding ?_) (Nat.zero_le _))) (by rw [← List.size_toArray]; exact z0))))) z0 (Nat.zero_le _))))
 show wpAny (model prog w) A _ P E { s with heap := ((s.heap.update a (Obj.mapSeq fun ξ => #[])).push (seqObj "tuple" vs.toArray 0)).push (seqObj "list" #[] 0) }
 have fin : ∀ cY : SortSt, (arrOf cY).map (·.2) = out.toArray → out.length ≤ vs.length → failedOf cY = none → wpAny (model prog w) A (do
   let touched := (← seqEpoch a) != e1
   Builtin.List.listUpdate (.ref a) fun ξ => (arrOf cY).map (·.2)
   if let some e := failedOf cY then rule "list.sort.comparison-raised"; throw e
   if touched then rule "list.sort.modified"; raiseError "ValueError" "list modified during sort"
   ret .none) P E { s with heap := ((s.heap.update a (Obj.mapSeq fun ξ => #[])).push (seqObj "tuple" vs.toArray 0)).push (seqObj "list" #[] 0) } := fun cY q1 q2 q3 => by
  rw [q1, q3]
  refine wpAny_bind (seqEpoch_at CS rfl (wpAny_bind (listUpdate_at CS rfl ?_ (Nat.zero_le _) (by rw [List.size_toArray, sizeLine_eq]; lia))))
  rw [bne_self_eq_false]
  exact wpAny_pure h
 rcases hk with ⟨h2, rfl⟩ | ⟨h2, p, rfl, hp⟩
 ·have iM : out.toArray.size < 2 := by rw [List.size_toArray]; exact h2
  rw [if_pos iM, if_pos iM]
  refine wpAny_bind (wpAny_pure ?_)
  dsimp only
  rw [StateT.run_pure]
  refine wpAny_bind (wpAny_pure (fin (SortSt.mk' general' (out.toArray.zip out.toArray) #[] 7 none) ?_ (Nat.le_refl _) rfl))
  exact Array.ext' (by simp [List.map_snd_zip])
 ·have iM : ¬ vs.toArray.size < 2 := by rw [List.size_toArray]; lia
  rw [if_neg iM, if_neg iM]
  have old : ∀ b o, b ≠ a → s.heap.get? b = some o → (((s.heap.update a (Obj.mapSeq fun ξ => #[])).push (seqObj "tuple" vs.toArray 0)).push (seqObj "list" #[] 0)).get? b = some o := fun b o hb e => Heap.get?_push_of_some _ (Heap.get?_push_of_some _ (by rw [Heap.get?_update_ne _ _ _ _ hb]; exact e))
  refine wpAny_bind (wpAny_mono (hp { s with heap := ((s.heap.update a (Obj.mapSeq fun ξ => #[])).push (seqObj "tuple" vs.toArray 0)).push (seqObj "list" #[] 0) } old (fun p' s' => p' = p ∧ s' = { s with heap := ((s.heap.update a (Obj.mapSeq fun ξ => #[])).push (seqObj "tuple" vs.toArray 0)).push (seqObj "list" #[] 0) }) ⟨rfl, rfl⟩) (fun κ s0 hk => ?_) fun ξ ξ x => x.elim)
  refine wpAny_bind (wpAny_mono (kat_run (Q := fun cY s' => ((arrOf cY).map (·.2) = List.toArray (p.toList.map fun i => vs.getD i Value.none) ∧ (p.toList.map fun i => vs.getD i Value.none).length ≤ vs.length ∧ failedOf cY = none) ∧ s' = { s with heap := ((s.heap.update a (Obj.mapSeq fun ξ => #[])).push (seqObj "tuple" vs.toArray 0)).push (seqObj "list" #[] 0) })
   rfl h2 dM (fun p' cY s' a1 a2 a3 a4 => ⟨⟨by rw [← a4.1]; exact kat_snds rfl a2, by rw [List.length_map, ← a4.1, Array.length_toList, a1]; exact Nat.le_refl _, a3⟩, a4.2⟩) hk) ?_ fun ξ ξ e => e)
  rintro ⟨⟨⟩, cY⟩ s' ⟨⟨q1, q2, q3⟩, rfl⟩
  exact fin cY q1 q2 q3
theorem yJ {vs : List Value} {xs : List D} (r : aC c.C F ρ vs xs) : ∀ l : List Nat, aC c.C F ρ (l.map fun i => vs.getD i Value.none) (l.map fun i => xs.getD i D.none) := @fun aa => match aa with
 | [] => .nil
 | i :: l => by
  refine .cons ?_ (yJ r l)
  show Rv c.C F ρ (vs.getD i Value.none) (xs.getD i D.none)
  rw [List.getD_eq_getElem?_getD, List.getD_eq_getElem?_getD]
  cases q : xs[i]? with
  | some x => obtain ⟨v, e, rv⟩ := r.get q; rw [e]; exact rv
  | none => rw [List.getElem?_eq_none (by rw [r.length]; exact List.getElem?_eq_none_iff.mp q)]; exact .none
end
theorem Gm {c : Cx} : j7 c := fun nm X env fa F ρ vars σ s A v xs d Q Ex hh gd w r e h => by
 refine bT (show (qM xs).map D.lst = some d from e) fun ys e' hd => ?_
 subst hd
 obtain ⟨⟨dM, jM⟩, es⟩ := bx e'
 obtain ⟨l, vs, rfl, hl, hs⟩ := w.g.list r
 have hlen := hs.length
 have wC : vs.length < 64 := hlen ▸ dM
 have hz : vs.length ≤ sizeLine := by rw [sizeLine_eq]; lia
 have eZ : ((s.heap.push (seqObj "list" #[] 0)).update s.heap.objs.size (Obj.mapSeq (· ++ vs.toArray))).objs.size = s.heap.objs.size + 1 := by rw [Heap.size_update, size_push']
 have qe : (((s.heap.push (seqObj "list" #[] 0)).update s.heap.objs.size (Obj.mapSeq (· ++ vs.toArray))).push (seqObj "list" vs.toArray 0)).get? (s.heap.objs.size + 1) = some (seqObj "list" vs.toArray 0) := by rw [← eZ]; exact Heap.get?_push_size _ rfl
 have keep : ∀ b o, s.heap.get? b = some o → b ≠ s.heap.objs.size + 1 ∧ (((s.heap.push (seqObj "list" #[] 0)).update s.heap.objs.size (Obj.mapSeq (· ++ vs.toArray))).push (seqObj "list" vs.toArray 0)).get? b = some o := fun b o q => by
  have aZ : b < s.heap.objs.size := Heap.lt_size q
  refine ⟨Nat.ne_of_lt (Nat.lt_succ_of_lt aZ), Heap.get?_push_of_some _ ?_⟩
  rw [Heap.get?_update_ne _ _ _ _ (Nat.ne_of_lt aZ)]
  exact Heap.get?_push_of_some _ q
 have key : ∃ out : List Value, aC c.C F ρ out ys ∧ (vs.length < 2 ∧ out = vs ∨ 2 ≤ vs.length ∧ ∃ p : Array Nat, out = p.toList.map (fun i => vs.getD i Value.none) ∧ gZ (mG xs) (kas_sort vs.length) = some p) := by
  rcases Nat.lt_or_ge xs.length 2 with h2 | h2
  ·rw [if_pos h2] at es
   exact ⟨vs, (Option.some.inj es) ▸ hs, .inl ⟨hlen ▸ h2, rfl⟩⟩
  ·rw [if_neg (Nat.not_lt.mpr h2)] at es
   exact bT es fun p e1 e2 => ⟨_, e2 ▸ yJ hs p.toList, .inr ⟨hlen ▸ h2, p, rfl, hlen ▸ e1⟩⟩
 obtain ⟨out, ro, ko⟩ := key
 refine Calls.call_function_entry kind_sorted plain_sorted entry_sorted (args_sorted1 _) ?_
 unfold Builtin.«sorted»
 refine wpAny_bind (m := checkCount "sorted" 1 1 _) (wpAny_pure (wpAny_bind (collect_list hl (wpAny_bind (wpAny_newList ?_ hz)) hz)))
 show wpAny _ _ _ _ _ { s with heap := ((s.heap.push (seqObj "list" #[] 0)).update s.heap.objs.size (Obj.mapSeq (· ++ vs.toArray))).push (seqObj "list" vs.toArray 0) }
 rw [eZ]
 refine wpAny_bind (wpAny_holding (wpAny_call_entry slot_list_sort ⟨_, qe, rfl⟩ entry_list_sort (PU (out := out) qe wC ?_ ⟨_, rfl, ?_⟩) (args_list_sort _)))
 ·refine ko.imp id fun ⟨h2, p, e1, e2⟩ => ⟨h2, p, e1, fun s' kp G hG => ?_⟩
  have g : ∀ a o, F.o a = some o → s'.heap.get? a = some o := fun a o q => kp a o (keep a o (w.g.f a o q)).1 (keep a o (w.g.f a o q)).2
  obtain ⟨fs, k1, k2, k3⟩ := zR g jM hs
  have hT : (Value.type "int" != Value.type "tuple") = true := by decide
  refine kat_kind k1 (by rw [k2]; exact Nat.lt_of_lt_of_le (by decide) h2) (T := .type "int") (fun v m => ?_) (by decide) (by rw [hT]; exact zL (cmp := kas_ask c.prog c.w A.in1.in1 (tuples' true) vs) (fun i j b C q1 q2 => D8 g hs q1 q2) e2 hG)
  obtain ⟨i, t, rfl⟩ := k3 v m
  exact Looks.of_pure rfl
 ·refine wpAny_pure ⟨_, rfl, h _ _ ?_ ?_⟩
  ·exact Kp.mk' (tk := s.toks) (fun b o q => sortedAll_old q) (Nat.le_refl _)
  ·obtain ⟨e, he⟩ := sortedAll_at s.heap vs out.toArray
   exact .lst (Heap.get?_none_of_le (Nat.le_succ _)) he rfl rfl ro
end Ev
end
section
namespace Ev
open PySem PySem.W PySem.Calls PyProof.Rows PySem.SeqAt
section
variable {c : Cx} {C : Cc} {lA i4 : Dl} {n : Nat}
theorem Jw {Δ : Dl} {m : Nat} {s : S} {ss : List S} {vars bG : af} {σ σ1 : ae} (h : aJ Δ (m + 1) (s :: ss) vars σ = some (.next, bG, σ1)) : ∃ v2 σ2, bK Δ m s vars σ = some (.next, v2, σ2) ∧ aJ Δ m ss v2 σ2 = some (.next, bG, σ1) := by
 have h' : (match bK Δ m s vars σ with | some (.next, vars, σ) => aJ Δ m ss vars σ | r => r) = some (.next, bG, σ1) := h
 match q : bK Δ m s vars σ, h' with
 | some (.next, v, σ'), h' => exact ⟨v, σ', rfl, h'⟩
 | some (.brk, v, σ'), h' => exact aI.noConfusion (cg h').1
 | some (.cont, v, σ'), h' => exact aI.noConfusion (cg h').1
 | some (.ret d, v, σ'), h' => exact aI.noConfusion (cg h').1
 | none, h' => exact au h'
end
end Ev
end
section
namespace Ev
open PySem PySem.W PySem.Calls PyProof.Rows PySem.SeqAt
section
variable {c : Cx} {nm : Nm} {X : aT} {fa : List (Option Addr)} {σ σ' : ae} {env : Env} {vars : af} {A : Around} {F : FM} {ρ : List (List Addr)} {s : Shared}
structure oX (inner : Scope) (p : Str) : Prop where
 kind : inner.kind = .function
 nd : (inner.names.map (·.1)).Nodup
 cell : ∀ x ∈ inner.names, x.2 ≠ .cell
 n0 : inner.names[0]? = some (p, .local)
 co : inner.isCoroutine = false
 gen : inner.isGenerator = false
theorem MQ {inner : Scope} {aq : List (Option Nat)} {p : Str} {v : Value} {d : D} {f : Addr} {code : Value} {qual : Str} {h1 : Heap} (L : oX inner p) (cD : dN nm inner.names = some aq) (dc : dD vars aq = true) (w : W c nm X env fa F ρ vars σ s)
  (rv : Rv c.C F ρ v d) (bB : h1.Ns s.heap.objs.size (fun x => List.lookup x [(p, v)])) (hk : ∀ b o, s.heap.get? b = some o → h1.get? b = some o) :
  W c inner.names (hid (gB fa) X h1) (newEnv inner s.heap.objs.size mainGlobals (dw env inner.names []) qual (some f) code none builtinsNs) (fS inner.names s.heap.objs.size (dw env inner.names [])) F ρ ((cP vars aq).set 0 (some d)) σ { s with heap := h1, toks := s.toks + 1 } := by
 have j8 : ∀ {i : Nat} {a : Addr}, (fS inner.names s.heap.objs.size (dw env inner.names []))[i]? = some (some a) → i = 0 ∧ a = s.heap.objs.size := fun {i a} e => by
  cases i with
  | zero => exact ⟨rfl, (Option.some.inj (Option.some.inj e)).symm⟩
  | succ i =>
   obtain ⟨x, e1, _⟩ := jK e
   exact (L.cell _ (List.mem_of_getElem? e1) rfl).elim
 have hlen : (cP vars aq).length = inner.names.length := by rw [cP, List.length_map, (qk cD).1]
 refine ⟨G.yl (w.keep (Kp.mk' hk (Nat.le_succ _))).g.CM (fun i a e => w.Cn (Nat.le_of_eq (j8 e).2.symm) ((j8 e).2 ▸ let ⟨o, _, _, e, _⟩ := bB; ⟨o, e⟩)) fun i j a e e' => (j8 e).1.trans (j8 e').1.symm, ?_⟩
 refine { kindF := L.kind, glob := rfl, bi := rfl, nd := L.nd, len := List.length_set.trans hlen, l0 := lR, kinds := fun x k hx => ⟨fun q => by subst q; exact .inr hx, fun ξ => hx⟩, ns := ⟨_, bB, fun i x d' e hc => ?_⟩, cell := fun i x e => (L.cell _ (List.mem_of_getElem? e) rfl).elim, free := fun i x d' e hc => ?_ }
 ·by_cases hi : 0 = i
  ·subst hi
   cases L.n0.symm.trans e
   cases (List.getElem?_set_self (Nat.lt_of_lt_of_eq (List.getElem?_eq_some_iff.mp L.n0).1 hlen.symm)).symm.trans hc
   exact ⟨v, by rw [List.lookup_cons, beq_self_eq_true], rv⟩
  ·exact (vv cD e (by decide) ((List.getElem?_set_ne hi).symm.trans hc)).elim
 ·have h := AZ cD dc e ((List.getElem?_set_ne (ow L.n0 e (by decide))).symm.trans hc)
  obtain ⟨a, ha⟩ := h.vC w
  obtain ⟨o, v, h⟩ := h.val w hk ha
  exact ⟨a, o, v, rT ha L.nd (List.mem_of_getElem? e), h⟩
structure jv (F : FM) (f : Addr) (name qual : Str) (params : Arguments) (body : Expr) (inner : Scope) (cl : List (Str × Addr)) : Prop where
 ex : ∃ pm nJ c' oc kh t, F.o f = some (kla_obj name qual params body inner cl pm c' nJ) ∧ F.o c' = some oc ∧ oc.data = .fields kh ∧ kh[1]? = some (Value.str qual t)
theorem jv.mono {F F' : FM} {f : Addr} {name qual : Str} {params : Arguments} {body : Expr} {inner : Scope} {cl : List (Str × Addr)} (h : jv F f name qual params body inner cl) (l : aG F F') : jv F' f name qual params body inner cl := by
 obtain ⟨pm, nJ, c', oc, kh, t, q1, q2, q3, q4⟩ := h.ex
 exact ⟨pm, nJ, c', oc, kh, t, l.o _ _ q1, l.o _ _ q2, q3, q4⟩
theorem MT {inner : Scope} {aq : List (Option Nat)} {f : Addr} {name qual : Str} {a : Arg} {body : Expr} {v : Value} {d r : D} {n : Nat} {Q Ex : Value → Shared → Prop} (Z : cG c) (gd : Good (n + 1) A) (L : oX inner a.arg) (cD : dN nm inner.names = some aq) (dc : dD vars aq = true)
  (hf : jv F f name qual ⟨[], [a], none, [], [], none, []⟩ body inner (dw env inner.names []))
  (hb : ∀ bJ bS X' A', Good n A' → aA c inner.names X' bJ bS A' (eval body bJ) ((cP vars aq).set 0 (some d)) σ r σ')
  (w : W c nm X env fa F ρ vars σ s) (rv : Rv c.C F ρ v d)
  (post : ∀ F' ao u s', aG F F' → ρ <+: ao → W c nm X env fa F' ao vars σ' s' → Rv c.C F' ao u r → Q u s') : wpAny (model c.prog c.w) A (call (.ref f) [v]) Q Ex s := by
 obtain ⟨pm, nJ, c', oc, kh, t, ho, xd, hd, hq⟩ := hf.ex
 refine wpAny_call (kla_callFunE gd.room (w.g.f _ _ ho) rfl L.co L.gen rfl ⟨c', oc, kh, t, rfl, w.g.f _ _ xd, hd, hq⟩ ?_)
 refine AR (as := [a]) (vs := [v]) rfl rfl (List.nodup_cons.mpr ⟨List.not_mem_nil, List.nodup_nil⟩) rfl _ _ _ _ ?_
 refine wpAny_newFunctionEnv L.cell (fun x hx => ?_) (fun h1 bB Lc => ?_) L.kind
 ·rw [List.mem_singleton.mp (show x ∈ [(a.arg, v)] from hx)]
  exact iT L.nd L.n0
 ·have hk : ∀ b o, s.heap.get? b = some o → h1.get? b = some o := fun b o e => Lc.extBut b o (Nat.ne_of_lt (Heap.lt_size e)) (Heap.get?_push_of_some _ e)
  refine ⟨(w.g.qx Z).keeps hk, kla_codeExpr ?_⟩
  have w1 := MQ (f := f) (code := .ref c') (qual := qual ++ ".<locals>.") L cD dc w rv bB hk
  have w4 := w.keep (Kp.mk' (tk := s.toks + 1) hk (Nat.le_succ _))
  refine hb _ _ _ _ gd.deeper F ρ _ _ _ w1 fun F' ao u s' l p w5 ru => ?_
  obtain ⟨g6, k6⟩ := w4.g.GW w5.g
  exact post F' ao u s' l p ⟨g6, w4.f.to l p fun i a o gp e' => k6 a o ⟨i, gp⟩ e'⟩ ru
end
end Ev
end
section
namespace Ev
open PySem PySem.W PySem.Calls PyProof.Rows PySem.SeqAt
section
variable {c : Cx} {nm : Nm} {X : aT} {fa : List (Option Addr)} {ρ : List (List Addr)} {σ : ae} {env : Env} {vars : af} {A : Around} {F : FM} {s : Shared} {P : Addr} {o0 o1 : Obj} {h' : Heap} {tk : Nat}
theorem uM {b : Addr} {o : Obj} (hP : X P = some o0) (h : X b = none) : upd X P o b = none := by
 rw [lj]; exact h
 intro e; rw [e, hP] at h; cases h
theorem G.zl (g : G c F X fa ρ σ s) (hP : X P = some o0) (hx : Heap.ExtBut P s.heap h') (h1 : h'.get? P = some o1) (ht : s.toks ≤ tk) : G c F (upd X P o1) fa ρ σ { s with heap := h', toks := tk } := by
 have bH : ∀ b, X b = none → b ≠ P := fun b e q => by rw [q, hP] at e; cases e
 refine { f := fun b o e => hx b o (bH b (g.fx b o e)) (g.f b o e), x := fun b o e => ?_, fx := fun b o e => uM hP (g.fx b o e), base := g.base, apart := g.apart, own := fun t b l m => ?_, objs := fun l m e => ?_, len := g.len, gens := g.gens, os := g.os, bI := fun h => Nat.lt_of_lt_of_le (g.bI h) ht, ft := fun t x e => ⟨(g.ft t x e).1, Nat.lt_of_lt_of_le (g.ft t x e).2 ht⟩ }
 ·by_cases hb : b = P
  ·subst hb; rw [gH] at e; cases e; exact h1
  ·rw [lj hb] at e; exact hx b o hb (g.x b o e)
 ·obtain ⟨q1, q2, o, q3⟩ := g.own t b l m
  exact ⟨q1, uM hP q2, o, hx b o (bH b q2) q3⟩
 ·obtain ⟨r, h1, h2⟩ := g.objs l m e
  exact ⟨r, h1, h2.mono aG.rfl (List.prefix_refl _) fun b hb o ho => hx b o (bH b (g.own (.loc l) b ⟨m, e⟩ (by rw [f9 h1]; exact hb)).2.1) ho⟩
theorem W.zl (w : W c nm X env fa F ρ vars σ s) (hP : X P = some o0) (K0 : ∀ v, o0.data ≠ .cell v) (hx : Heap.ExtBut P s.heap h') (h1 : h'.get? P = some o1) (ht : s.toks ≤ tk) : W c nm (upd X P o1) env fa F ρ vars σ { s with heap := h', toks := tk } := by
 have bH : ∀ b, X b = none → b ≠ P := fun b e q => by rw [q, hP] at e; cases e
 have f := w.f.to (h' := h') aG.rfl (List.prefix_refl _) fun i a o hi e => hx a o (bH a (w.g.own (.fr i) a trivial (bV.mpr hi)).2.1) e
 refine ⟨w.g.zl hP hx h1 ht, { f with free := fun i x d q1 q2 => ?_ }⟩
 obtain ⟨b, o, v, p1, p2, p3, p4⟩ := f.free i x d q1 q2
 have hb : b ≠ P := fun q => by rw [q, hP] at p2; cases p2; exact K0 _ p3
 exact ⟨b, o, v, p1, by rw [lj hb]; exact p2, p3, p4⟩
theorem W.gn (w : W c nm X env fa F ρ vars σ s) {a : Addr} {o : Obj} (ho : s.heap.get? a = some o) (hF : F.o a = none) (hX : X a = none) (hO : ∀ t, cK σ t → a ∉ bE fa ρ t) : aG F (jt F a o) ∧ W c nm X env fa (jt F a o) ρ vars σ s :=
 ⟨g9 hF, w.iu (w.g.gn ho hF hX hO) (g9 hF) (List.prefix_refl _)⟩
structure ni (c : Cx) (lc P : Addr) : Prop where
 hd : CodeHd c.B lc P
 g : ∃ mg, c.B.Ns mainGlobals mg ∧ c.B.BuiltinsAt mg P
 ne : mainGlobals ≠ P
theorem MU {lc : Addr} {inner : Scope} {aq : List (Option Nat)} {a : Arg} {body : Expr} {pos : Pos} {Q Ex : Value → Shared → Prop} (B : ni c lc P) (pX : env.code = .ref lc) (dh : fG inner = true) (cD : dN nm inner.names = some aq) (dc : dD vars aq = true)
  (hP : X P = some (tabObj #[])) (w : W c nm X env fa F ρ vars σ s)
  (post : ∀ F' f more s', aG F F' → W c nm (upd X P (tabObj more)) env fa F' ρ vars σ s' → jv F' f "<lambda>" (env.qual ++ "<lambda>") ⟨[], [a], none, [], [], none, []⟩ body inner (dw env inner.names []) → Q (.ref f) s') :
  wpAny (model c.prog c.w) A (eval (.Lambda ⟨[], [a], none, [], [], none, []⟩ body inner pos) env) Q Ex s := by
 have kp : ∀ b o, c.B.get? b = some o → s.heap.get? b = some o := fun b o q => w.g.f b o (w.g.base b o q)
 obtain ⟨mg, hg, bm, ob, b1, b2, b3, b4, b5, b6⟩ := B.g
 refine kla_eval rfl ?_
 refine wpAny_with_toks (Nat.le_refl s.toks) ?_
 refine kla_makeFunction (mg := mg) (vG dh cD dc w).1 w.f.glob (hg.keeps kp) pX (B.hd.keeps kp) (w.g.x _ _ hP) trivial rfl B.ne ⟨bm, ob, b1, b2, b3, b4, kp _ _ b5, b6⟩ fun c' nJ h' tk hx jf aZ K8 Lg ht => ?_
 obtain ⟨c2, oc, kh, t, e2, xd, hd, hq⟩ := K8
 cases e2
 obtain ⟨f1, f2, f3⟩ := w.g.fresh (gV jf)
 obtain ⟨k1, k2, k3⟩ := w.g.fresh (gV (Nat.le_of_lt (Nat.lt_of_le_of_lt jf aZ)))
 have w1 : W c nm (upd X P (tabObj (#[] ++ #[rawInt pos.line, rawInt pos.col, .ref c']))) env fa F ρ vars σ { s with heap := h', toks := tk } := w.zl hP (fun v q => nomatch q) hx Lg ht
 have w2 : W c nm (upd X P (tabObj (#[] ++ #[rawInt pos.line, rawInt pos.col, .ref c']))) env fa F ρ vars σ { s with heap := h'.push (kla_obj "<lambda>" (env.qual ++ "<lambda>") ⟨[], [a], none, [], [], none, []⟩ body inner (dw env inner.names []) ((mg "__name__").getD .none) c' nJ), toks := tk } := w1.keep Kp.push
 obtain ⟨l3, w3⟩ := w2.gn (Heap.get?_push_of_some _ xd) f1 (uM hP f2) f3
 have bH : h'.objs.size ≠ c' := Nat.ne_of_gt aZ
 have MD : (jt F c' oc).o h'.objs.size = none := by show upd F.o c' oc _ = none; rw [lj bH]; exact k1
 obtain ⟨l4, w4⟩ := w3.gn (Heap.get?_push_size _ rfl) MD (uM hP k2) k3
 exact post _ _ _ _ (l3.trans l4) w4 ⟨_, _, c', oc, kh, t, gH, l4.o _ _ gH, hd, hq⟩
end
end Ev
end
section
namespace Ev
open PySem PySem.W PySem.Calls PyProof.Rows PySem.SeqAt
noncomputable def kX (ks xs : List D) : Option (List D) := if ks.length = xs.length ∧ xs.length < 64 ∧ ks.all ku = true then (if xs.length < 2 then some xs else (gZ (mG ks) (PySem.W.kas_sort xs.length)).map fun p => p.toList.map fun i => xs.getD i .none) else none
section
variable {c : Cx} {nm : Nm} {X : aT} {fa : List (Option Addr)} {ρ : List (List Addr)} {σ : ae} {env : Env} {vars : af} {A : Around} {F : FM} {s : Shared}
theorem D5 {a kS : Addr} {ks out : List Value} {st : SortSt} {e e1 : Nat} {Pf : PySem.Fin → Shared → Prop} {E : Value → Shared → Prop} (iP : kS ≠ a) (hk : s.heap.get? kS = some (seqObj "list" ks.toArray e)) (ha : s.heap.get? a = some (seqObj "list" #[] e1)) (K4 : (arrOf st).map (·.2) = out.toArray) (hz : out.length < 64) (Rj : ks.length < 64) (hf : failedOf st = none)
  (h : ∀ h' e2, (∀ b o, b ≠ kS → b ≠ a → s.heap.get? b = some o → h'.get? b = some o) → h'.get? a = some (seqObj "list" out.toArray e2) → Pf (.done (.ret .none)) { s with heap := h' }) : wpAny (model c.prog c.w) A (ksk_tail a false e1 (.ref kS) st) Pf E s := by
 have s1 := Heap.SameBut.update s.heap kS (Obj.mapSeq fun ξ => (#[] : Array Value))
 have wH : (s.heap.update kS (Obj.mapSeq fun ξ => (#[] : Array Value))).get? a = some (seqObj "list" #[] e1) := (s1.2 a iP.symm).trans ha
 have s2 := Heap.SameBut.update (s.heap.update kS (Obj.mapSeq fun ξ => (#[] : Array Value))) a (Obj.mapSeq fun ξ => out.toArray)
 obtain ⟨c2, nS⟩ : ∃ c2, ((s.heap.update kS (Obj.mapSeq fun ξ => (#[] : Array Value))).update a (Obj.mapSeq fun ξ => out.toArray)).get? a = some (seqObj "list" out.toArray c2) := ⟨_, get?_update_seq wH fun ξ => out.toArray⟩
 unfold ksk_tail
 dsimp only
 rw [K4, hf]
 refine wpAny_bind (listUpdate_at hk rfl ?_ (by rw [List.size_toArray, sizeLine_eq]; lia) (Nat.zero_le _))
 refine wpAny_bind (wpAny_letGo (wpAny_bind (seqEpoch_at wH rfl ?_)))
 refine wpAny_bind (listUpdate_at wH rfl ?_ (Nat.zero_le _) (by show out.toArray.size ≤ _; rw [List.size_toArray, sizeLine_eq]; lia))
 rw [bne_self_eq_false]
 exact wpAny_pure (h _ c2 (fun b o q1 q2 q => (s2.2 b q2).trans ((s1.2 b q1).trans q)) nS)
theorem Q7 {ks vs : List Value} (hl : ks.length = vs.length) : (ks.toArray.zip vs.toArray).map (·.2) = vs.toArray := Array.ext' (by simp [List.map_snd_zip, hl])
theorem MF {a kS : Addr} {vs ks out : List Value} {e e1 : Nat} {Pf : PySem.Fin → Shared → Prop} {E : Value → Shared → Prop} (iP : kS ≠ a) (hk : s.heap.get? kS = some (seqObj "list" ks.toArray e)) (ha : s.heap.get? a = some (seqObj "list" #[] e1)) (hl : ks.length = vs.length) (dM : vs.length < 64)
  (ho : vs.length < 2 ∧ out = vs ∨ 2 ≤ vs.length ∧ ∃ p : Array Nat, out = p.toList.map (fun i => vs.getD i Value.none) ∧ ∀ G : Array Nat → Shared → Prop, G p s → wpAny (model c.prog c.w) A (keyKind' ks.toArray) (fun κ kT => (kas_sort vs.length).kasWp (kas_ask c.prog c.w A κ ks) G kT) (fun ξ ξ => False) s)
  (h : ∀ h' e2, (∀ b o, b ≠ kS → b ≠ a → s.heap.get? b = some o → h'.get? b = some o) → h'.get? a = some (seqObj "list" out.toArray e2) → Pf (.done (.ret .none)) { s with heap := h' }) : wpAny (model c.prog c.w) A (ksk_end a false vs.toArray e1 (.ref kS) ks.toArray) Pf E s := by
 unfold ksk_end
 dsimp only
 rw [if_neg (by decide : ¬ (false = true)), if_neg (by decide : ¬ (false = true))]
 rcases ho with ⟨h2, rfl⟩ | ⟨h2, p, rfl, hp⟩
 ·have iM : out.toArray.size < 2 := by rw [List.size_toArray]; exact h2
  rw [if_pos iM, if_pos iM]
  refine wpAny_bind (wpAny_pure ?_)
  rw [StateT.run_pure]
  refine wpAny_bind (wpAny_pure ?_)
  exact D5 (st := SortSt.mk' general' (ks.toArray.zip out.toArray) #[] 7 none) iP hk ha (Q7 hl) dM (hl ▸ dM) rfl h
 ·have iM : ¬ vs.toArray.size < 2 := by rw [List.size_toArray]; lia
  rw [if_neg iM, if_neg iM]
  refine wpAny_bind (wpAny_mono (hp (fun p' s' => p' = p ∧ s' = s) ⟨rfl, rfl⟩) (fun κ s0 KQ => ?_) fun ξ ξ x => x.elim)
  refine wpAny_bind (wpAny_mono (kat_run (Q := fun cY s' => ((arrOf cY).map (·.2) = List.toArray (p.toList.map fun i => vs.getD i Value.none) ∧ (p.toList.map fun i => vs.getD i Value.none).length ≤ vs.length ∧ failedOf cY = none) ∧ s' = s)
   hl h2 dM (fun p' cY s' a1 a2 a3 a4 => ⟨⟨by rw [← a4.1]; exact kat_snds hl a2, by rw [List.length_map, ← a4.1, Array.length_toList, a1]; exact Nat.le_refl _, a3⟩, a4.2⟩) KQ) ?_ fun ξ ξ e => e)
  rintro ⟨⟨⟩, cY⟩ s' ⟨⟨q1, q2, q3⟩, rfl⟩
  exact D5 iP hk ha q1 (Nat.lt_of_le_of_lt q2 dM) (hl ▸ dM) q3 h
structure uZ (c : Cx) (nm : Nm) (X : aT) (env : Env) (fa : List (Option Addr)) (F0 : FM) (bD : List (List Addr)) (vars : af) (σ : ae) (kS a : Addr) (e1 : Nat) (rs : List D) (j : Nat) (s : Shared) : Prop where
 mk ::
 ex : ∃ F ρ ks e, aG F0 F ∧ bD <+: ρ ∧ W c nm X env fa F ρ vars σ s ∧ b7 F X fa ρ σ [kS, a] ∧ s.heap.get? kS = some (seqObj "list" (List.toArray ks) e) ∧ s.heap.get? a = some (seqObj "list" #[] e1) ∧ aC c.C F ρ ks (rs.take j)
theorem take_snoc {rs : List D} {j : Nat} {r : D} (h : rs[j]? = some r) : rs.take (j + 1) = rs.take j ++ [r] := by rw [List.take_succ, h]; rfl
theorem MH {inner : Scope} {aq : List (Option Nat)} {f kS a : Addr} {name qual : Str} {ag : Arg} {body : Expr} {vs : List Value} {xs rs : List D} {n e1 : Nat} {Q : PUnit → Shared → Prop} {Ex : Value → Shared → Prop} {bd : Value → PUnit → Sem (ForInStep PUnit)} (Z : cG c) (gd : Good (n + 1) A) (L : oX inner ag.arg) (cD : dN nm inner.names = some aq) (dc : dD vars aq = true)
  (hf : jv F f name qual ⟨[], [ag], none, [], [], none, []⟩ body inner (dw env inner.names []))
  (hb : ∀ (i : Nat) d, xs[i]? = some d → ∃ r, rs[i]? = some r ∧ ∀ bJ bS X' A', Good n A' → aA c inner.names X' bJ bS A' (eval body bJ) ((cP vars aq).set 0 (some d)) σ r σ) (K9 : rs.length < 64)
  (Ko : ∀ x ks e (s : Shared) (C : Value → Shared → Prop), List.length ks < 64 → wpAny (model c.prog c.w) A (call (.ref f) [x]) (fun k s' => s'.heap.get? kS = some (seqObj "list" (List.toArray ks) e) ∧ C k { s' with heap := s'.heap.update kS (Obj.mapSeq (·.push k)) }) (fun ξ ξ => False) s → wpAny (model c.prog c.w) A (bd x ⟨⟩) (fun r s' => r = .yield ⟨⟩ ∧ ∃ k, C k s') Ex s)
  (iP : kS ≠ a) (rv : aC c.C F ρ vs xs) (w : W c nm X env fa F ρ vars σ s) (hg : b7 F X fa ρ σ [kS, a]) (h1 : s.heap.get? kS = some (seqObj "list" #[] 0)) (h2 : s.heap.get? a = some (seqObj "list" #[] e1))
  (done : ∀ s', uZ c nm X env fa F ρ vars σ kS a e1 rs vs.length s' → Q ⟨⟩ s') : wpAny (model c.prog c.w) A (forIn vs PUnit.unit bd) Q Ex s := by
 refine ksk_fold (uZ c nm X env fa F ρ vars σ kS a e1 rs) vs 0 s ⟨F, ρ, [], 0, aG.rfl, List.prefix_refl _, w, hg, h1, h2, .nil⟩ (fun j x s' hx hI => ?_) (fun s' hI => done s' (by rw [Nat.zero_add] at hI; exact hI))
 rw [Nat.zero_add] at hI ⊢
 obtain ⟨F1, aB, ks, e, l1, p1, w1, g1, k1, k2, r1⟩ := hI.ex
 have aZ : j < xs.length := by rw [← rv.length]; exact (List.getElem?_eq_some_iff.mp hx).1
 obtain ⟨v, q1, q2⟩ := rv.get (List.getElem?_eq_getElem aZ)
 rw [hx] at q1; cases q1
 obtain ⟨r, hr, wN⟩ := hb j _ (List.getElem?_eq_getElem aZ)
 have dz : ks.length < 64 := Nat.lt_of_le_of_lt (by rw [r1.length, List.length_take]; exact Nat.min_le_right _ _) K9
 have sX : ∀ b ∈ [kS, a], X b = none := fun b hb => (g1 b hb).2.1
 have nU : ∀ b ∈ [kS, a], ∃ o, s'.heap.get? b = some o ∧ ∀ w, o.data ≠ .cell w := fun b hb => by
  rcases List.mem_cons.mp hb with rfl | hb
  ·exact ⟨_, k1, fun v q => nomatch q⟩
  ·rw [List.mem_singleton.mp hb]; exact ⟨_, k2, fun v q => nomatch q⟩
 refine wpAny_mono (Ko x ks e s' (fun k s2 => uZ c nm X env fa F ρ vars σ kS a e1 rs (j + 1) s2) dz ?_) (fun q s2 hq => ⟨hq.1, hq.2.choose_spec⟩) fun ξ ξ e => e
 refine MT Z gd L cD dc (hf.mono l1) wN (w1.nQ g1) (q2.mono l1 p1) fun F2 aQ u s2 l2 p2 w2 ru => ?_
 obtain ⟨w3, k3, g3⟩ := w2.mT sX nU
 have kk := k3 kS List.mem_cons_self _ k1
 obtain ⟨c2, nS⟩ : ∃ c2, (s2.heap.update kS (Obj.mapSeq (·.push u))).get? kS = some (seqObj "list" (List.toArray (ks ++ [u])) c2) := ⟨_, by rw [show List.toArray (ks ++ [u]) = (List.toArray ks).push u by simp]; exact get?_update_seq kk (·.push u)⟩
 refine ⟨kk, ⟨F2, aQ, ks ++ [u], c2, l1.trans l2, p1.trans p2, w3.jk (own := [kS, a]) g3 (fun b o hb e => ?_) rfl rfl (Nat.le_refl _), g3, nS, ?_, by rw [take_snoc hr]; exact (r1.mono l2 p2).append (.cons ru .nil)⟩⟩
 ·exact (Heap.get?_update_ne _ _ _ _ (fun q => hb (by rw [q]; exact List.mem_cons_self))).trans e
 ·exact (Heap.get?_update_ne _ _ _ _ iP.symm).trans (k3 a (List.mem_cons_of_mem _ List.mem_cons_self) _ k2)
end
end Ev
end
section
namespace Ev
open PySem PySem.W PySem.Calls PyProof.Rows PySem.SeqAt
section
variable {c : Cx} {nm : Nm} {X : aT} {fa : List (Option Addr)} {ρ : List (List Addr)} {σ : ae} {env : Env} {vars : af} {A : Around} {F : FM} {s : Shared}
structure uY (c : Cx) (nm : Nm) (env : Env) (vars : af) (σ : ae) (n : Nat) (inner : Scope) (aq : List (Option Nat)) (ag : Arg) (body : Expr) (xs rs : List D) : Prop where
 L : oX inner ag.arg
 inis : dN nm inner.names = some aq
 cap : dD vars aq = true
 ev : ∀ (i : Nat) d, xs[i]? = some d → ∃ r, rs[i]? = some r ∧ ∀ bJ bS X' A', Good n A' → aA c inner.names X' bJ bS A' (eval body bJ) ((cP vars aq).set 0 (some d)) σ r σ
structure An (c : Cx) (nm : Nm) (X : aT) (env : Env) (fa : List (Option Addr)) (F0 : FM) (bD : List (List Addr)) (vars : af) (σ : ae) (a : Addr) (ys : List D) (s : Shared) : Prop where
 mk ::
 ex : ∃ F ρ out e, aG F0 F ∧ bD <+: ρ ∧ W c nm X env fa F ρ vars σ s ∧ b7 F X fa ρ σ [a] ∧ s.heap.get? a = some (seqObj "list" (List.toArray out) e) ∧ aC c.C F ρ out ys
theorem b7.sub {own own' : List Addr} (h : b7 F X fa ρ σ own) (hs : ∀ b ∈ own', b ∈ own) : b7 F X fa ρ σ own' := fun b hb => h b (hs b hb)
theorem MI {inner : Scope} {aq : List (Option Nat)} {f kS a : Addr} {name qual : Str} {ag : Arg} {body : Expr} {vs : List Value} {xs rs ys : List D} {n e1 : Nat} {Pf : PySem.Fin → Shared → Prop} {E : Value → Shared → Prop} (Z : cG c) (gd : Good (n + 1) A) (K : uY c nm env vars σ n inner aq ag body xs rs)
  (hf : jv F f name qual ⟨[], [ag], none, [], [], none, []⟩ body inner (dw env inner.names [])) (hs : kX rs xs = some ys)
  (iP : kS ≠ a) (rv : aC c.C F ρ vs xs) (w : W c nm X env fa F ρ vars σ s) (hg : b7 F X fa ρ σ [kS, a]) (h1 : s.heap.get? kS = some (seqObj "list" #[] 0)) (h2 : s.heap.get? a = some (seqObj "list" #[] e1))
  (post : ∀ s', An c nm X env fa F ρ vars σ a ys s' → Pf (.done (.ret .none)) s') : wpAny (model c.prog c.w) A (ksk_rest a (.ref f) false vs.toArray e1 (.ref kS)) Pf E s := by
 obtain ⟨⟨hl, dM, jM⟩, es⟩ := bx hs
 have hlen := rv.length
 unfold ksk_rest
 refine wpAny_bind (wpAny_rule ?_)
 rw [List.forIn_toArray]
 refine wpAny_bind (MH Z gd K.L K.inis K.cap hf K.ev (hl ▸ dM) (fun x ks e s C hz hx => ?_) iP rv w hg h1 h2 fun s2 hI => ?_)
 ·refine wpAny_bind (wpAny_attempt (wpAny_mono hx (fun k kT hk => ?_) fun ξ ξ hF => hF.elim))
  dsimp only
  refine wpAny_bind (listUpdate_at hk.1 rfl ?_ (by rw [List.size_toArray, sizeLine_eq]; lia) (Nat.le_trans (Nat.le_of_eq (Array.size_push ..)) (by rw [List.size_toArray, sizeLine_eq]; lia)))
  exact wpAny_pure ⟨rfl, k, hk.2⟩
 ·obtain ⟨F1, aB, ks, e, l1, p1, w1, g1, k1, k2, r1⟩ := hI.ex
  rw [hlen, ← hl, List.take_length] at r1
  have dz : ks.length = vs.length := by rw [r1.length, hl, hlen]
  have FZ := rv.mono l1 p1
  have key : ∃ out : List Value, aC c.C F1 aB out ys ∧ (vs.length < 2 ∧ out = vs ∨ 2 ≤ vs.length ∧ ∃ p : Array Nat, out = p.toList.map (fun i => vs.getD i Value.none) ∧ gZ (mG rs) (kas_sort vs.length) = some p) := by
   rcases Nat.lt_or_ge xs.length 2 with q2 | q2
   ·rw [if_pos q2] at es
    exact ⟨vs, (Option.some.inj es) ▸ FZ, .inl ⟨hlen ▸ q2, rfl⟩⟩
   ·rw [if_neg (Nat.not_lt.mpr q2)] at es
    exact bT es fun p e1 e2 => ⟨_, e2 ▸ yJ FZ p.toList, .inr ⟨hlen ▸ q2, p, rfl, hlen ▸ e1⟩⟩
  obtain ⟨out, ro, ko⟩ := key
  refine wpAny_bind (listItems_at k1 rfl ?_)
  refine MF iP k1 k2 dz (hlen ▸ dM) (ko.imp id fun ⟨q2, p, e1, e2⟩ => ⟨q2, p, e1, fun G hG => ?g1⟩) fun h' e2 hk ho => ?g2
  case g1 =>
   obtain ⟨fs, t1, t2, t3⟩ := zR w1.g.f jM r1
   have hT : (Value.type "int" != Value.type "tuple") = true := by decide
   refine kat_kind t1 (by rw [t2, dz]; exact Nat.lt_of_lt_of_le (by decide) q2) (T := .type "int") (fun v m => ?_) (by decide) (by rw [hT]; exact zL (cmp := kas_ask c.prog c.w A (tuples' true) ks) (fun i j b C q1 q2 => D8 w1.g.f r1 q1 q2) e2 hG)
   obtain ⟨i, t, rfl⟩ := t3 v m
   exact Looks.of_pure rfl
  case g2 => exact post _ ⟨F1, aB, out, e2, l1, p1, w1.jk (own := [kS, a]) g1 (fun b o hb q => hk b o (fun q => hb (by rw [q]; exact List.mem_cons_self)) (fun q => hb (by rw [q]; exact List.mem_cons_of_mem _ List.mem_cons_self)) q) rfl rfl (Nat.le_refl _), g1.sub fun b hb => List.mem_cons_of_mem _ hb, ho, ro⟩
theorem MK {inner : Scope} {aq : List (Option Nat)} {f a : Addr} {name qual : Str} {ag : Arg} {body : Expr} {vs : List Value} {xs rs ys : List D} {n m : Nat} {Pf : PySem.Fin → Shared → Prop} {E : Value → Shared → Prop} (Z : cG c) (gd : Good (n + 1) A) (K : uY c nm env vars σ n inner aq ag body xs rs)
  (hf : jv F f name qual ⟨[], [ag], none, [], [], none, []⟩ body inner (dw env inner.names [])) (hs : kX rs xs = some ys)
  (rv : aC c.C F ρ vs xs) (w : W c nm X env fa F ρ vars σ s) (hg : b7 F X fa ρ σ [a]) (h2 : s.heap.get? a = some (seqObj "list" vs.toArray m))
  (post : ∀ s', An c nm X env fa F ρ vars σ a ys s' → Pf (.done (.ret .none)) s') : wpAny (model c.prog c.w) A (ksk_tree a (.ref f) false) Pf E s := by
 obtain ⟨⟨hl, dM, jM⟩, es⟩ := bx hs
 have hlen := rv.length
 have wC : vs.length < 64 := hlen ▸ dM
 have ha : a < s.heap.objs.size := Heap.lt_size h2
 obtain ⟨e1, qd⟩ : ∃ e1, (s.heap.update a (Obj.mapSeq fun ξ => (#[] : Array Value))).get? a = some (seqObj "list" #[] e1) := ⟨_, get?_update_seq h2 fun ξ => #[]⟩
 have w1 : W c nm X env fa F ρ vars σ { s with heap := s.heap.update a (Obj.mapSeq fun ξ => (#[] : Array Value)) } := w.jk (own := [a]) hg (fun b o hb q => (Heap.get?_update_ne _ _ _ _ (fun e => hb (by rw [e]; exact List.mem_cons_self))).trans q) rfl rfl (Nat.le_refl _)
 have w2 := w1.keep (Kp.push (o := seqObj "tuple" vs.toArray 0))
 have w3 := w2.keep (Kp.push (o := seqObj "list" #[] 0))
 have eZ : ((s.heap.update a (Obj.mapSeq fun ξ => (#[] : Array Value))).push (seqObj "tuple" vs.toArray 0)).objs.size = s.heap.objs.size + 1 := by rw [size_push', Heap.size_update]
 have fr := w2.g.fresh (gV (Nat.le_refl ((s.heap.update a (Obj.mapSeq fun ξ => (#[] : Array Value))).push (seqObj "tuple" vs.toArray 0)).objs.size))
 have iP : ((s.heap.update a (Obj.mapSeq fun ξ => (#[] : Array Value))).push (seqObj "tuple" vs.toArray 0)).objs.size ≠ a := by rw [eZ]; exact Nat.ne_of_gt (Nat.lt_succ_of_lt ha)
 unfold ksk_tree
 refine wpAny_bind (listItems_at h2 rfl ?_)
 refine wpAny_bind (listUpdate_at h2 rfl ?_ (by rw [List.size_toArray, sizeLine_eq]; lia) (Nat.zero_le _))
 refine wpAny_bind (seqEpoch_at qd rfl ?_)
 refine wpAny_bind (wpAny_newTuple ?_ (by show vs.length ≤ _; rw [sizeLine_eq]; lia))
 refine wpAny_bind (wpAny_newList ?_ (Nat.zero_le _))
 refine wpAny_holding ?_
 refine MI Z gd K hf hs iP rv w3 (fun b hb => ?_) (Heap.get?_push_size _ rfl) (Heap.get?_push_of_some _ (Heap.get?_push_of_some _ qd)) post
 rcases List.mem_cons.mp hb with rfl | hb
 ·exact fr
 ·exact hg b hb
theorem MJ {inner : Scope} {aq : List (Option Nat)} {f : Addr} {name qual : Str} {ag : Arg} {body : Expr} {v : Value} {xs rs ys : List D} {n : Nat} {Q Ex : Value → Shared → Prop} (Z : cG c) (gd : Good (n + 3) A) (K : uY c nm env vars σ n inner aq ag body xs rs)
  (hf : jv F f name qual ⟨[], [ag], none, [], [], none, []⟩ body inner (dw env inner.names [])) (hs : kX rs xs = some ys)
  (rv : Rd c F ρ s.heap v (.lst xs)) (w : W c nm X env fa F ρ vars σ s)
  (post : ∀ F' ao u s', aG F F' → ρ <+: ao → W c nm X env fa F' ao vars σ s' → Rv c.C F' ao u (.lst ys) → Q u s') : wpAny (model c.prog c.w) A (call (.builtin "sorted") [v] [(Str.ofString "key", .ref f)]) Q Ex s := by
 obtain ⟨⟨hl, dM, jM⟩, es⟩ := bx hs
 obtain ⟨l, vs, rfl, KZ, C9⟩ := w.g.list rv
 have hlen := C9.length
 have wC : vs.length < 64 := hlen ▸ dM
 have hz : vs.length ≤ sizeLine := by rw [sizeLine_eq]; lia
 have eZ : ((s.heap.push (seqObj "list" #[] 0)).update s.heap.objs.size (Obj.mapSeq (· ++ vs.toArray))).objs.size = s.heap.objs.size + 1 := by rw [Heap.size_update, size_push']
 have qe : (((s.heap.push (seqObj "list" #[] 0)).update s.heap.objs.size (Obj.mapSeq (· ++ vs.toArray))).push (seqObj "list" vs.toArray 0)).get? (s.heap.objs.size + 1) = some (seqObj "list" vs.toArray 0) := by rw [← eZ]; exact Heap.get?_push_size _ rfl
 have keep : ∀ b o, s.heap.get? b = some o → (((s.heap.push (seqObj "list" #[] 0)).update s.heap.objs.size (Obj.mapSeq (· ++ vs.toArray))).push (seqObj "list" vs.toArray 0)).get? b = some o := fun b o q => by
  have aZ : b < s.heap.objs.size := Heap.lt_size q
  refine Heap.get?_push_of_some _ ?_
  rw [Heap.get?_update_ne _ _ _ _ (Nat.ne_of_lt aZ)]
  exact Heap.get?_push_of_some _ q
 have w1 := w.keep (Kp.mk' (tk := s.toks) keep (Nat.le_refl _))
 have fr := w.g.fresh (gV (h := s.heap) (Nat.le_succ s.heap.objs.size))
 refine call_function_entry_kw kind_sorted plain_sorted entry_sorted (ksk_s1 _ _) ?_
 unfold Builtin.«sorted»
 refine wpAny_bind (m := checkCount "sorted" 1 1 _) (wpAny_pure ?_)
 refine wpAny_bind (collect_list KZ ?_ hz)
 refine wpAny_bind (wpAny_newList ?_ hz)
 show wpAny _ _ _ _ _ { s with heap := ((s.heap.push (seqObj "list" #[] 0)).update s.heap.objs.size (Obj.mapSeq (· ++ vs.toArray))).push (seqObj "list" vs.toArray 0) }
 rw [eZ]
 refine wpAny_bind (wpAny_holding (wpAny_call_entry_kw slot_list_sort ⟨_, qe, rfl⟩ entry_list_sort ?body (ksk_l1 _ _)))
 rw [ksk_t1]
 refine MK Z (n := n) (gd.le (by lia) : Good (n + 2 + 1) A).in1.in1 K hf hs C9 w1 (fun b hb => by rw [List.mem_singleton.mp hb]; exact fr) qe fun s' hI => ⟨_, rfl, ?_⟩
 obtain ⟨F1, aB, out, e, l1, p1, w2, g2, ho, ro⟩ := hI.ex
 obtain ⟨q1, q2, q3⟩ := g2 (s.heap.objs.size + 1) List.mem_cons_self
 obtain ⟨l2, w3⟩ := w2.gn ho q1 q2 q3
 exact wpAny_pure ⟨_, rfl, post _ aB _ s' (l1.trans l2) p1 w3 (.lst gH rfl rfl (ro.mono l2 (List.prefix_refl _)))⟩
end
end Ev
end
section
namespace Ev
open PySem PySem.W PySem.Calls PyProof.Rows PySem.SeqAt
noncomputable def tM (p : Arguments) (sc : Scope) : Bool := match p with
 | ⟨[], [a], none, [], [], none, []⟩ => (fG sc && sc.names.all (fun x => x.2 != .cell)) && (decide (sc.names[0]? = some (a.arg, .local)) && (!sc.isCoroutine && !sc.isGenerator))
 | _ => false
noncomputable def isKey (C : Cc) (k : Nat) (nm : Nm) (ea eL : E) (aq : List (Option Nat)) : Expr → Bool := @fun aa => match aa with
 | .Call (.Name x υ1) [y] [⟨some kw, .Lambda p lb sc υ2, υ3⟩] υ4 => (cu nm x && x == cU .sorted) && (kw == Str.ofString "key" && (bw C k ea nm y && (tM p sc && (dN nm sc.names == some aq && bw C k eL sc.names lb))))
 | υ1 => false
theorem Pu {sc : Scope} (h : fG sc = true) : sc.kind = .function ∧ (sc.names.map (·.1)).Nodup := by
 simp only [fG, Bool.and_eq_true, beq_iff_eq, decide_eq_true_eq] at h
 exact ⟨h.1.1, h.1.2⟩
theorem MR {p : Arguments} {sc : Scope} (h : tM p sc = true) : ∃ a, p = ⟨[], [a], none, [], [], none, []⟩ ∧ fG sc = true ∧ oX sc a.arg := by
 obtain ⟨p1, p2, p3, p4, p5, p6, p7⟩ := p
 cases p1 with
 | cons _ _ => exact ai h
 | nil => cases p2 with
 | nil => exact ai h
 | cons a r => cases r with
 | cons _ _ => exact ai h
 | nil => cases p3 with
 | some _ => exact ai h
 | none => cases p4 with
 | cons _ _ => exact ai h
 | nil => cases p5 with
 | cons _ _ => exact ai h
 | nil => cases p6 with
 | some _ => exact ai h
 | none => cases p7 with
 | cons _ _ => exact ai h
 | nil =>
  have h1 := aj (show ((fG sc && sc.names.all (fun x => x.2 != .cell)) && (decide (sc.names[0]? = some (a.arg, .local)) && (!sc.isCoroutine && !sc.isGenerator))) = true from h)
  have h2 := aj h1.1
  have h3 := aj h1.2
  have h4 := aj h3.2
  have h5 := Pu h2.1
  exact ⟨a, rfl, h2.1, ⟨h5.1, h5.2, fun x hx q => by have r := List.all_eq_true.mp h2.2 x hx; rw [q] at r; exact ai r, of_decide_eq_true h3.1, (Bool.not_eq_true' _).mp h4.1, (Bool.not_eq_true' _).mp h4.2⟩⟩
structure Hi (C : Cc) (k : Nat) (nm : Nm) (ea eL : E) (aq : List (Option Nat)) (y : Expr) (p : Arguments) (lb : Expr) (sc : Scope) (z kw : Str) : Prop where
 gl : cu nm z = true
 z : z = cU .sorted
 kw : kw = Str.ofString "key"
 y : bw C k ea nm y = true
 lam : tM p sc = true
 aq : dN nm sc.names = some aq
 key : bw C k eL sc.names lb = true
theorem DI {C : Cc} {k : Nat} {nm : Nm} {ea eL : E} {aq : List (Option Nat)} {P : Expr → Prop} {x : Expr} (h : isKey C k nm ea eL aq x = true) (go : ∀ z zp y kw p lb sc lp kp pos, Hi C k nm ea eL aq y p lb sc z kw → P (.Call (.Name z zp) [y] [⟨some kw, .Lambda p lb sc lp, kp⟩] pos)) : P x := by
 cases x with
 | Call f xs ks pos => cases f with
  | Name z zp => cases xs with
   | nil => exact ai h
   | cons y r => cases r with
   | cons _ _ => exact ai h
   | nil => cases ks with
   | nil => exact ai h
   | cons w kr =>
    obtain ⟨a, v, kp⟩ := w
    cases a with
    | none => exact ai h
    | some kw => cases v with
     | Lambda p lb sc lp => cases kr with
      | cons _ _ => exact ai h
      | nil =>
       have h1 := aj (show ((cu nm z && z == cU .sorted) && (kw == Str.ofString "key" && (bw C k ea nm y && (tM p sc && (dN nm sc.names == some aq && bw C k eL sc.names lb))))) = true from h)
       have h2 := aj h1.1
       have h3 := aj h1.2
       have h4 := aj h3.2
       have h5 := aj h4.2
       have h6 := aj h5.2
       exact go _ _ _ _ _ _ _ _ _ _ ⟨h2.1, eq_of_beq h2.2, eq_of_beq h3.1, h4.1, h5.1, eq_of_beq h6.1, h6.2⟩
     | _ => exact ai h
  | _ => exact ai h
 | _ => exact ai h
section
variable {c : Cx} {C : Cc} {Δ iH : Dl} {nm : Nm} {X : aT} {fa : List (Option Addr)} {ρ : List (List Addr)} {σ : ae} {env : Env} {vars : af} {A : Around} {F : FM} {s : Shared} {n n2 k : Nat} {lc P : Addr}
theorem ME {ea eL : E} {aq : List (Option Nat)} {x : Expr} {xs rs ys : List D} {m : Nat} {Q Ex : Value → Shared → Prop} (D0 : ck c C Δ n) (D2 : ck c C iH n2) (hn : n2 + 3 ≤ n) (B : ni c lc P) (pX : env.code = .ref lc) (hP : X P = some (tabObj #[])) (hc : isKey C k nm ea eL aq x = true) (gd : Good n A)
  (h3 : ah Δ m ea vars σ = some (.lst xs, σ)) (dc : dD vars aq = true) (hk : ∀ (i : Nat) d, xs[i]? = some d → ∃ r, rs[i]? = some r ∧ ah iH 100 eL ((cP vars aq).set 0 (some d)) σ = some (r, σ)) (hs : kX rs xs = some ys)
  (w : W c nm X env fa F ρ vars σ s) (post : ∀ F' ao more u s', aG F F' → ρ <+: ao → W c nm (upd X P (tabObj more)) env fa F' ao vars σ s' → Rv c.C F' ao u (.lst ys) → Q u s') : wpAny (model c.prog c.w) A (eval x env) Q Ex s := by
 refine DI (P := fun x => wpAny (model c.prog c.w) A (eval x env) Q Ex s) hc fun z zp y kw p lb sc lp kp pos K => ?_
 obtain ⟨q1, rfl, rfl, q4, q5, q6, q7⟩ := K
 obtain ⟨a, rfl, q8, L⟩ := MR q5
 have hy := (nD D0 k).e _ _ _ q4
 have hb := (nD D2 k).e _ _ _ q7
 obtain ⟨hl, dF⟩ := kG q1
 have xq := iB (es := []) (env := env) hy.ok
 refine wpAny_Call_Name_kw (w.f.builtin D0.Z w.g hl (D0.N .sorted) (j9 .sorted).1 (j9 .sorted).2 dF ?_)
 refine callWith_kw ?_ (by rw [xq]; rfl) (by rw [xq]; rfl) rfl rfl
 refine cy.cons (ds := []) xq (hy.ev m env fa X A _ _ _ _ gd h3) cy.nil F ρ s _ Ex w fun F1 aB vs s1 l1 p1 w1 r1 => ?_
 obtain ⟨v, us, rfl, rv, qF⟩ := r1.inv
 obtain rfl := (qF.inv : us = [])
 refine kws_cons (MU B pX q8 q6 dc hP w1 fun F2 f more s2 l2 w2 hf => kws_nil ?_)
 refine MJ (n := n2) D0.Z (gd.le hn) ⟨L, q6, dc, fun i d hd => ?_⟩ hf hs (.old (rv.mono l2 (List.prefix_refl _))) w2 fun F3 eF u s3 l3 p3 w3 r3 => post F3 eF more u s3 (l1.trans (l2.trans l3)) (p1.trans p3) w3 r3
 obtain ⟨r, e1, e2⟩ := hk i d hd
 exact ⟨r, e1, fun bJ bS X' A' lU => hb.ev 100 bJ bS X' A' _ _ _ _ lU e2⟩
noncomputable def xN (C : Cc) (k : Nat) (nm : Nm) (e1 el ea eL : E) (aq : List (Option Nat)) : Stmt → Bool := xM (isBool .Or (bw C k e1 nm) (xJ .NotEq (bw C k el nm) (isKey C k nm ea eL aq))) (fun ξ => true) List.isEmpty
theorem MG {σ' : ae} {e1 el ea eL : E} {aq : List (Option Nat)} {st : Stmt} {xs rs ys : List D} {y : D} {m1 m2 m3 : Nat} {Q : Flow → Shared → Prop} {Ex : Value → Shared → Prop} (D0 : ck c C Δ n) (D2 : ck c C iH n2) (hn : n2 + 3 ≤ n) (B : ni c lc P) (pX : env.code = .ref lc) (hP : X P = some (tabObj #[])) (hc : xN C k nm e1 el ea eL aq st = true) (gd : Good n A)
  (h1 : aX Δ m1 e1 vars σ = some (false, σ')) (h2 : ah Δ m2 el vars σ' = some (y, σ')) (hy : res σ' y = some y) (h3 : ah Δ m3 ea vars σ' = some (.lst xs, σ')) (dc : dD vars aq = true) (hk : ∀ (i : Nat) d, xs[i]? = some d → ∃ r, rs[i]? = some r ∧ ah iH 100 eL ((cP vars aq).set 0 (some d)) σ' = some (r, σ')) (hs : kX rs xs = some ys) (he : b8 .NotEq y (.lst ys) = some false)
  (w : W c nm X env fa F ρ vars σ s) (post : ∀ F' ao more s', aG F F' → ρ <+: ao → W c nm (upd X P (tabObj more)) env fa F' ao vars σ' s' → Q .next s') : wpAny (model c.prog c.w) A (exec st env) Q Ex s := by
 refine DH (P := fun st => wpAny (model c.prog c.w) A (exec st env) Q Ex s) hc fun t a b pos g1 ξ g3 => ?_
 obtain rfl := List.isEmpty_iff.mp g3
 refine xH (P := fun t => wpAny (model c.prog c.w) A (exec (.If t a [] pos) env) Q Ex s) g1 fun u v OG g4 g5 => ?_
 refine DA (P := fun v => wpAny (model c.prog c.w) A (exec (.If (.BoolOp .Or [u, v] OG) a [] pos) env) Q Ex s) g5 fun xZ mO yQ g6 g7 => ?_
 have hu := (nD D0 k).e _ _ _ g4
 have hl := (nD D0 k).e _ _ _ g6
 have g0 := gd.le (Nat.zero_le n)
 have hm : ∀ t : Sem Value, markedEach [.NotEq] [mO] [t] = [t] := EX (DI (P := fun mO => gz mO = true) g7 fun ξ ξ ξ ξ ξ ξ ξ ξ ξ ξ ξ => rfl)
 refine wpAny_If ?_
 show wpAny _ _ (isTrue u env (eval u env) >>= fun t => match BoolOp.Or, t with
  | .And, false => pure false
  | .Or, true => pure true
  | _, _ => isTrue (.Compare xZ [.NotEq] [mO] yQ) env (eval (.Compare xZ [.NotEq] [mO] yQ) env) >>= fun u => match BoolOp.Or, u with
   | .And, false => pure false
   | .Or, true => pure true
   | _, _ => pure false) _ _ s
 refine wpAny_bind (hu.tr m1 env fa X A _ _ _ _ gd h1 F ρ s _ Ex w fun F1 aB s1 l1 p1 w1 => wpAny_bind ?_)
 show wpAny _ _ (eval xZ env >>= fun x => testChain yQ x [.NotEq] (markedEach [.NotEq] [mO] [eval mO env])) _ _ _
 rw [hm]
 refine wpAny_bind (hl.ev m2 env fa X A _ _ _ _ gd h2 F1 aB s1 _ Ex w1 fun F2 aQ v2 s2 l2 p2 w2 r2 => ?_)
 unfold testChain
 refine wpAny_bind (wpAny_holding (ME D0 D2 hn B pX hP g7 gd h3 dc hk hs w2 fun F3 eF more v3 s3 l3 p3 w3 r3 => wpAny_bind (wpAny_standAt (wpAny_bind (oR ?_)))))
 refine Bb g0 D0.nb he w3 (w3.g.rd (r2.mono l3 p3) hy) (.old r3) (wpAny_holding (wpAny_truthy_bool (wpAny_pure ?_)))
 exact wpAny_execs_nil (post F3 eF more s3 (l1.trans (l2.trans l3)) (p1.trans (p2.trans p3)) w3)
end
end Ev
end
section
namespace Ev
open PySem PySem.W PySem.Calls PyProof.Rows PySem.SeqAt
structure i7 where
 pre : List S
 i : Nat
 e : E
 mid : List S
 e1 : E
 el : E
 ea : E
 eL : E
 aq : List (Option Nat)
 rest : List S
noncomputable def Iw (C : Cc) (L : i7) (nm : Nm) : List Stmt → Bool := @fun aa => match aa with
 | sk :: r => xN C 200 nm L.e1 L.el L.ea L.eL L.aq sk && dQ C 200 L.rest nm r
 | [] => false
noncomputable def Ir (C : Cc) (L : i7) (nm : Nm) : List Stmt → Bool := @fun aa => match aa with
 | sa :: r => (lJ C 200 (.asg [.var L.i] L.e) nm sa && zx sa) && (dQ C 200 L.mid nm (r.take L.mid.length) && Iw C L nm (r.drop L.mid.length))
 | [] => false
noncomputable def rS (C : Cc) (L : i7) (nm : Nm) (body : List Stmt) : Bool := dQ C 200 L.pre nm (body.take L.pre.length) && Ir C L nm (body.drop L.pre.length)
theorem Iz {C : Cc} {L : i7} {nm : Nm} {body : List Stmt} (h : rS C L nm body = true) : ∃ iX sa gX sk gE, body = iX ++ sa :: (gX ++ sk :: gE) ∧ dQ C 200 L.pre nm iX = true ∧ lJ C 200 (.asg [.var L.i] L.e) nm sa = true ∧ zx sa = true ∧ dQ C 200 L.mid nm gX = true ∧ xN C 200 nm L.e1 L.el L.ea L.eL L.aq sk = true ∧ dQ C 200 L.rest nm gE = true := by
 have h1 := aj h
 cases hd : body.drop L.pre.length with
 | nil => have := h1.2; rw [hd] at this; exact ai this
 | cons sa r =>
  have h2 := h1.2
  rw [hd] at h2
  have h2 := aj h2
  have h3 := aj h2.1
  have h4 := aj h2.2
  cases hr : r.drop L.mid.length with
  | nil => have := h4.2; rw [hr] at this; exact ai this
  | cons sk gE =>
   have h5 := h4.2
   rw [hr] at h5
   have h5 := aj h5
   exact ⟨body.take L.pre.length, sa, r.take L.mid.length, sk, gE, by rw [← hr, List.take_append_drop, ← hd, List.take_append_drop], h1.1, h3.1, h3.2, h4.1, h5.1, h5.2⟩
section
variable {c : Cx} {C : Cc} {Δ lA i4 iH : Dl} {n n2 : Nat} {nm : Nm} {env : Env} {fa : List (Option Addr)} {A : Around} {X : aT}
theorem yT {k : Nat} (D : ck c C Δ n) (gd : Good n A) {gX : List Stmt} {bG : af} {σ1 : ae} {Q : Flow → Shared → Prop} {Ex : Value → Shared → Prop} : ∀ (pre : List S) (iX : List Stmt) (k m0 : Nat) (vars : af) (σ : ae) (F : FM) (ρ : List (List Addr)) (s : Shared), dQ C k pre nm iX = true → aJ Δ m0 pre vars σ = some (.next, bG, σ1) → W c nm X env fa F ρ vars σ s →
  (∀ F' ao s', aG F F' → ρ <+: ao → W c nm X env fa F' ao bG σ1 s' → wpAny (model c.prog c.w) A (execs gX env) Q Ex s') → wpAny (model c.prog c.w) A (execs (iX ++ gX) env) Q Ex s := @fun aa => @(match aa with
 | [] => @fun iX k m0 vars σ F ρ s hc e0 w go => by
  cases k with
  | zero => exact ai hc
  | succ k =>
  cases iX with
  | cons st rest => exact ai hc
  | nil =>
   cases m0 with
   | zero => exact au e0
   | succ m0 =>
    obtain ⟨_, rfl, rfl⟩ := iY e0
    exact go F ρ s aG.rfl (List.prefix_refl _) w
 | s0 :: pre => @fun iX k m0 vars σ F ρ s hc e0 w go => by
  cases m0 with
  | zero => exact au e0
  | succ m0 =>
  obtain ⟨v2, σ', q1, q2⟩ := Jw e0
  cases k with
  | zero => exact ai hc
  | succ k =>
  cases iX with
  | nil => exact ai hc
  | cons st rest =>
   have h1 := aj (show (lJ C k s0 nm st && dQ C k pre nm rest) = true from hc)
   refine wpAny_execs_cons ((pD D k).s _ _ _ h1.1 m0 env fa X _ _ _ _ _ _ gd q1 F ρ s _ _ w fun F1 aB f s1 l1 p1 w1 r1 => ?_)
   obtain rfl := (r1.inv : f = .next)
   exact yT (k := k) D gd pre rest k m0 v2 σ' F1 aB s1 h1.2 q2 w1 fun F' ao s' l2 p2 w' => go F' ao s' (l1.trans l2) (p1.trans p2) w')
inductive rq (L : i7) (lA i4 iH : Dl) (v0 : af) (d : Ev.D) : Prop where
 | mk {bG dG mX : af} {σ1 σ2 Hf bf bX : ae} {d1 y : Ev.D} {xs rs ys : List Ev.D} (e1 : aJ lA 200 L.pre v0 [] = some (.next, bG, σ1)) (e2 : ah lA 200 L.e bG σ1 = some (d1, σ2)) (e3 : aJ i4 200 L.mid (bG.set L.i (some d1)) σ2 = some (.next, dG, Hf))
  (k1 : aX i4 200 L.e1 dG Hf = some (false, bf)) (k2 : ah i4 200 L.el dG bf = some (y, bf)) (k3 : res bf y = some y) (k4 : ah i4 200 L.ea dG bf = some (.lst xs, bf)) (k5 : dD dG L.aq = true)
  (k6 : ∀ (i : Nat) x, xs[i]? = some x → ∃ r, rs[i]? = some r ∧ ah iH 100 L.eL ((cP dG L.aq).set 0 (some x)) bf = some (r, bf)) (k7 : kX rs xs = some ys) (k8 : b8 .NotEq y (.lst ys) = some false) (e4 : aJ i4 200 L.rest dG bf = some (.ret d, mX, bX)) : rq L lA i4 iH v0 d
theorem Nv {L : i7} {lc P f : Addr} {fo : Obj} {fd : FuncData} {fn : Fn} {as : List Arg} {body : List Stmt} {ds : List Ev.D} {d : Ev.D} {F : FM} {s : Shared} {vs : List Value} {Q Ex : Value → Shared → Prop}
  (D0 : ck c C lA n) (D1 : ck c.warm C i4 n) (D2 : ck c.warm C iH n2) (hn : n2 + 3 ≤ n) (B : ni c.warm lc P) (h : FnOk0 fd fn as body) (hc : rS C L fd.scope.names body = true) (ho : s.heap.get? f = some fo) (pY : fo.data = .func fd) (hcd : s.heap.CodeRec fd.code fd.qualname) (KY : fd.code = .ref lc)
  (loc : ∃ x, fd.scope.names[L.i]? = some (x, .local)) (hlen : ds.length = fn.np) (run : rq L lA i4 iH (cZ fn ds) d) (hd : d.pure = true) (hP : X P = some (tabObj #[]))
  (gd : Good (n + 1) A) (g : G c F X [] [] [] s) (rv : aC c.C F [] vs ds) (post : ∀ F' more r s', aG F F' → G c.warm F' (upd X P (tabObj more)) [] [] [] s' → Rv c.C F' [] r d → Q r s') : wpAny (model c.prog c.w) A (call (.ref f) vs) Q Ex s := by
 obtain ⟨iX, sa, gX, sk, gE, rfl, c1, c2, c3, c4, c5, c6⟩ := Iz hc
 obtain ⟨e1, e2, e3, k1, k2, k3, k4, k5, k6, k7, k8, e4⟩ := run
 refine wpAny_call (sq h D0.Z g ho pY hcd (g.qx D0.Z) gd.room rv hlen fun env fa s1 dh w => ?_)
 have lU : Good n (A.deeper env) := gd.deeper
 refine yT (k := 200) D0 lU L.pre iX 200 200 _ _ F [] s1 c1 e1 w fun F1 aB s2 l1 p1 w1 => ?_
 refine Du (P := fun sa => zx sa = true → wpAny (model c.prog c.w) (A.deeper env) (execs (sa :: (gX ++ sk :: gE)) env) _ _ s2) (show xG (jD fd.scope.names [.var L.i]) (bw C 199 L.e fd.scope.names) sa = true from c2) (fun ts v p ξ h3 h4 lc => ?_) c3
 have hv := (nD D0 199).e _ _ _ h4
 cases ts with
 | nil => exact ai h3
 | cons t ts =>
 have h5 := aj (show (b9 fd.scope.names (.var L.i) t && jD fd.scope.names [] ts) = true from h3)
 cases ts with
 | cons t2 ts => exact ai h5.2
 | nil =>
 obtain ⟨x, hx⟩ := loc
 obtain ⟨pp, rfl⟩ := Mt h5.1 hx
 refine wpAny_execs_cons (wpAny_Assign_Name (hv.ev 200 env fa X _ _ _ _ _ lU e2 F1 aB s2 _ _ w1 fun F2 aQ u s3 l2 p2 w2 rr => ?_) (GD hv.ok ((Bool.not_eq_true' _).mp lc) _ _ _))
 refine zy w2 hx rr fun s4 w3 ht => ?_
 refine yT (c := c.warm) (k := 200) D1 lU L.mid gX 200 200 _ _ F2 aQ s4 c4 e3 (w3.warm ht) fun F3 eF s5 l3 p3 w4 => ?_
 refine wpAny_execs_cons (MG D1 D2 hn B (dh.2.trans KY) hP c5 lU k1 k2 k3 k4 k5 k6 k7 k8 w4 fun F4 Ac more s6 l4 p4 w5 => ?_)
 refine (pD D1 200).ss _ _ _ c6 200 env fa _ _ _ _ _ _ _ lU e4 F4 Ac s6 _ _ w5 fun F5 gI fl s7 l5 p5 w6 r6 => ?_
 obtain ⟨v, rfl, r⟩ := r6.inv
 exact post F5 more _ s7 (l1.trans (l2.trans (l3.trans (l4.trans l5)))) w6.g.yC (r.toPure hd)
end
end Ev
end
section
namespace Ev
open PySem PySem.W PySem.Calls PyProof.Rows PySem.SeqAt
noncomputable def DK (a : Addr) : Value → Bool := @fun aa => match aa with
 | .ref b => decide (b = a)
 | υ1 => false
theorem Mm {a : Addr} {v : Value} (h : DK a v = true) : v = .ref a := by
 cases v with
 | ref b => rw [of_decide_eq_true (show decide (b = a) = true from h)]
 | _ => exact ai h
noncomputable def isLocal (nm : Nm) (i : Nat) : Bool := match nm[i]? with
 | some p => decide (p.2 = .local)
 | none => false
noncomputable def xU (C : Cc) (K : Frag) (fn : Fn) (L : i7) (lc P : Addr) (x : Str) : Bool := oE (nsIn K mainGlobals x) fun a => yw (wm (K.lookup a)) fun fd => (codeIn K fd.code fd.qualname && sQ (rS C L) fn fd) && ((isLocal fd.scope.names L.i && DK lc fd.code) && (codeHdIn K lc P && (K.lookup P).isNone))
theorem MW {C : Cc} {K : Frag} {fn : Fn} {L : i7} {lc P : Addr} {x : Str} (h : xU C K fn L lc P x = true) : ∃ a fd oc od sl body, nsIn K mainGlobals x = some (some (.ref a)) ∧ K.lookup a = some ⟨oc, od, .func fd, sl⟩ ∧ codeIn K fd.code fd.qualname = true ∧ FnOk0 fd fn fd.params.args body ∧ rS C L fd.scope.names body = true ∧ (∃ y, fd.scope.names[L.i]? = some (y, .local)) ∧ fd.code = .ref lc ∧ codeHdIn K lc P = true ∧ K.lookup P = none := by
 obtain ⟨a, h1, h2⟩ := oF h
 obtain ⟨fd, h3, h4⟩ := E1 h2
 obtain ⟨oc, od, sl, h5⟩ := Cr h3
 have q1 := aj h4
 have q2 := aj q1.1
 have q3 := aj q1.2
 have q4 := aj q3.1
 have q5 := aj q3.2
 obtain ⟨body, q6, q7⟩ := Ci q2.2
 refine ⟨a, fd, oc, od, sl, body, h1, h5, q2.1, q6, q7, ?_, Mm q4.2, q5.1, Option.isNone_iff_eq_none.mp q5.2⟩
 have h6 := q4.1
 unfold isLocal at h6
 cases hq : fd.scope.names[L.i]? with
 | none => rw [hq] at h6; exact ai h6
 | some q => rw [hq] at h6; exact ⟨q.1, by rw [← of_decide_eq_true (show decide (q.2 = .local) = true from h6)]⟩
section
variable {c : Cx} {C : Cc} {s : Shared} {P : Addr}
noncomputable def uc (P : Addr) (o : Obj) : aT := fun a => if a = P then some o else none
theorem PZ {o : Obj} (hB : c.B = hideAll s.heap [P]) (hS : c.S0 = s) (hp : c.pos = false) (ho : s.heap.get? P = some o) : G c (Aw c.B) (uc P o) [] [] [] s where
 f := fun a o' e => of_hideAll [P] (by rw [← hB]; exact e)
 x := fun a o' e => by
  by_cases h : a = P
  ·subst h
   have e2 : uc a o a = some o := if_pos rfl
   rw [e2] at e; cases e; exact ho
  ·have e2 : uc P o a = none := if_neg h
   rw [e2] at e; exact au e
 fx := fun a o' e => by
  by_cases h : a = P
  ·subst h
   have e2 : (hideAll s.heap [a]).get? a = none := hideAll_none [a] List.mem_cons_self
   have e3 : c.B.get? a = some o' := e
   rw [hB, e2] at e3; exact au e3
  ·exact if_neg h
 base := fun a o e => e
 apart := fun t ξ a ξ ξ h => (oz h).elim
 own := fun t a ξ h => (oz h).elim
 objs := fun l m e => au e
 len := rfl
 gens := by rw [hS]
 bI := fun h => by rw [hp] at h; exact ai h
 ft := fun t x e => au e
 os := by rw [hS]
theorem qb {h : Heap} {b : Addr} {o : Obj} (e : h.get? b = some o) (hb : b ≠ P) : (hideAll h [P]).get? b = some o := hideAll_get [P] e fun q => hb (List.mem_singleton.mp q)
theorem QS {T : jx} {fn : Fn} {L : i7} {lc : Addr} {name : Str} {mg : Str → Option Value} {zs : List Int} {k k2 : Nat} (H : rH C c.K T c.C) (H3 : xU C c.K fn L lc P name = true) (S : o4 c) (S2 : o4 c.warm) (B : CodeHd c.B lc P → ni c lc P) (hB : c.B = hideAll s.heap [P]) (hS : c.S0 = s) (hp : c.pos = false) (KX : c.K.In s.heap) (hg : s.heap.Ns mainGlobals mg) (hP : s.heap.get? P = some (tabObj #[]))
  (hs : j7 c) (jO : j7 c.warm) (CQ : fn.np = 1) (hk : 2 * k + 1 ≤ 600) (s8 : 2 * k2 + 3 ≤ 2 * k) (run : rq L (iw T false true k) (iw T true true k) (iw T true true k2) (cZ fn [.lst (zs.map .int)]) (.bool true))
  {fa l : Addr} {vs : List Value} {Q : Value → Shared → Prop} {Ex : Value → Shared → Prop} (hmg : mg name = some (.ref fa)) (hL : s.heap.IsList l vs.toArray) (hI : IntsAre vs zs)
  (hQ : ∀ s' more, CodeHd c.B lc P → (∀ b o, b ≠ P → s.heap.get? b = some o → s'.heap.get? b = some o) → s'.heap.get? P = some (tabObj more) → s'.os = s.os → s'.gens = s.gens → Q (.bool true) s') : wpAny (model c.prog c.w) callerA (call (.ref fa) [.ref l]) Q Ex s := by
 obtain ⟨a, fd, oc, od, sl, body, q1, q2, q3, q4, q5, q6, q7, q8, q9⟩ := MW H3
 have CH := mg_of KX hg q1
 rw [hmg] at CH
 cases CH
 have hd := codeHd_of_K S.Z.K q8
 obtain ⟨o, xg, hc, n, pY⟩ := hL
 have KW : l ≠ P := fun q => by rw [q, hP] at xg; cases xg; cases hc
 have hr : Rv c.C (Aw c.B) [] (.ref l) (.lst (zs.map .int)) := .lst (n := n) (show c.B.get? l = some o by rw [hB]; exact qb xg KW) hc pY (HH hI)
 have g := PZ (c := c) hB hS hp hP
 refine Nv (X := uc P (tabObj #[])) (vs := [.ref l]) (tR H S (fun h => ai h) (fun ξ => hs) k) (tR (c := c.warm) H S2 (fun ξ => rfl) (fun ξ => jO) k) (tR (c := c.warm) H S2 (fun ξ => rfl) (fun ξ => jO) k2) s8 ⟨(B hd).hd, (B hd).g, (B hd).ne⟩ q4 q5 (KX _ _ q2) rfl (codeRec_of KX q3) q7 q6 (ds := [.lst (zs.map .int)]) (by rw [CQ]; rfl) run rfl (if_pos rfl) (J3 hk) g (.cons hr .nil) fun F' more r s' le g' rr => ?_
 obtain rfl := (rr.inv : r = .bool true)
 refine hQ s' more hd (fun b o hb e => g'.f b o (le.o b o (show c.B.get? b = some o by rw [hB]; exact qb e hb))) (g'.x P _ gH) ?_ ?_
 ·exact g'.os.trans (congrArg Shared.os hS)
 ·exact g'.gens.trans (congrArg Shared.gens hS)
end
end Ev
end
section
namespace Ev
open PySem PySem.W PySem.Calls PyProof.Rows PySem.SeqAt
noncomputable def sS : Fn := ⟨14, 3, [
 .asg [(.var 3)] (.bi .max [(.var 0), (.var 1), (.var 2)]),
 .asg [(.var 4)] (.bi .min [(.var 0), (.var 1), (.var 2)]),
 .asg [(.var 5)] (.bin .Sub (.var 3) (.var 4)),
 .asg [(.var 6)] (.var 3),
 .ite (.cmp .Eq (.var 4) (.var 3)) [.ret (.tup [(.lit (.flt 0)), (.lit (.flt 0)), (.var 6)])] [],
 .asg [(.var 7)] (.bin .Div (.var 5) (.var 3)),
 .asg [(.var 8)] (.bin .Div (.bin .Sub (.var 3) (.var 0)) (.var 5)),
 .asg [(.var 9)] (.bin .Div (.bin .Sub (.var 3) (.var 1)) (.var 5)),
 .asg [(.var 10)] (.bin .Div (.bin .Sub (.var 3) (.var 2)) (.var 5)),
 .ite (.cmp .Eq (.var 0) (.var 3)) [.asg [(.var 11)] (.bin .Sub (.var 10) (.var 9))] [.ite (.cmp .Eq (.var 1) (.var 3)) [.asg [(.var 11)] (.bin .Sub (.bin .Add (.lit (.flt 4611686018427387904)) (.var 8)) (.var 10))] [.asg [(.var 11)] (.bin .Sub (.bin .Add (.lit (.flt 4616189618054758400)) (.var 9)) (.var 8))]],
 .asg [(.var 11)] (.bin .Mod (.bin .Div (.var 11) (.lit (.flt 4618441417868443648))) (.lit (.flt 4607182418800017408))),
 .ret (.tup [(.var 11), (.var 7), (.var 6)])]⟩
noncomputable def v9 : Fn := ⟨4, 2, [
 .expr (.append (.var 0) (.var 1)),
 .expr (.eN 2 (.var 0) [(.lit (.int 0)), (.bin .Sub (.bi .len [(.var 0)]) (.lit (.int 1)))])]⟩
noncomputable def jd : Fn := ⟨4, 1, [
 .asg [(.var 1)] (.pop (.var 0)),
 .ite (.var 0) [.asg [(.var 2)] (.idx (.var 0) (.lit (.int 0))), .dJ (.var 0) (.lit (.int 0)) (.var 1), .expr (.eN 3 (.var 0) [(.lit (.int 0))]), .ret (.var 2)] [],
 .ret (.var 1)]⟩
noncomputable def pV : Fn := ⟨6, 3, [
 .asg [(.var 3)] (.idx (.var 0) (.var 2)),
 .wh (.cmp .Gt (.var 2) (.var 1)) [.asg [(.var 4)] (.bin .RShift (.bin .Sub (.var 2) (.lit (.int 1))) (.lit (.int 1))), .asg [(.var 5)] (.idx (.var 0) (.var 4)), .ite (.cmp .Lt (.var 3) (.var 5)) [.dJ (.var 0) (.var 2) (.var 5), .asg [(.var 2)] (.var 4), .cont] [], .brk],
 .dJ (.var 0) (.var 2) (.var 3)]⟩
noncomputable def pW : Fn := ⟨9, 2, [
 .asg [(.var 2)] (.bi .len [(.var 0)]),
 .asg [(.var 3)] (.var 1),
 .asg [(.var 4)] (.idx (.var 0) (.var 1)),
 .asg [(.var 5)] (.bin .Add (.bin .Mult (.lit (.int 2)) (.var 1)) (.lit (.int 1))),
 .wh (.cmp .Lt (.var 5) (.var 2)) [.asg [(.var 6)] (.bin .Add (.var 5) (.lit (.int 1))), .ite (.both (.cmp .Lt (.var 6) (.var 2)) (.not (.cmp .Lt (.idx (.var 0) (.var 5)) (.idx (.var 0) (.var 6))))) [.asg [(.var 5)] (.var 6)] [], .dJ (.var 0) (.var 1) (.idx (.var 0) (.var 5)), .asg [(.var 1)] (.var 5), .asg [(.var 5)] (.bin .Add (.bin .Mult (.lit (.int 2)) (.var 1)) (.lit (.int 1)))],
 .dJ (.var 0) (.var 1) (.var 4),
 .expr (.eN 2 (.var 0) [(.var 3), (.var 1)])]⟩
noncomputable def Cb : Fn := ⟨5, 1, [
 .asg [(.tup [1, 2])] (.attr (.var 0) 3),
 .ret (.bi .max [(.bin .Sub (.bi .len [(.var 1)]) (.lit (.int 1))), (.var 2)])]⟩
noncomputable def BY : Fn := ⟨8, 2, [
 .asg [(.tup [2, 3])] (.attr (.var 0) 3),
 .asg [(.var 4)] (.lit (.int 0)),
 .for (.var 5) (.range [(.var 1), (.bi .len [(.var 2)])]) [.asg [(.var 4)] (.bin .Add (.var 4) (.bin .Mult (.bin .FloorDiv (.var 5) (.var 1)) (.idx (.var 2) (.var 5))))],
 .ret (.bin .Add (.var 3) (.bin .Mult (.var 1) (.bin .Add (.var 4) (.attr (.var 0) 2))))]⟩
noncomputable def kj : Fn := ⟨12, 2, [
 .setAttr (.var 0) 0 (.var 1),
 .asg [(.tup [2, 3])] (.tup [(.lit (.str [32])), (.lit (.str [9]))]),
 .asg [(.var 4)] (.lst []),
 .asg [(.var 5), (.var 6), (.var 7)] (.lit (.int 0)),
 .for (.var 8) (.attr (.var 0) 0) [.ite (.cmp .Eq (.var 8) (.var 2)) [.asg [(.var 6)] (.bin .Add (.var 6) (.lit (.int 1))), .asg [(.var 5)] (.bin .Add (.var 5) (.lit (.int 1)))] [.ite (.cmp .Eq (.var 8) (.var 3)) [.asg [(.var 6)] (.bin .Add (.var 6) (.lit (.int 1))), .asg [(.var 7)] (.bin .Add (.var 7) (.lit (.int 1))), .ite (.cmp .GtE (.var 5) (.bi .len [(.var 4)])) [.asg [(.var 4)] (.bin .Add (.var 4) (.rep (.lit (.int 0)) (.bin .Add (.bin .Sub (.var 5) (.bi .len [(.var 4)])) (.lit (.int 1)))))] [], .dJ (.var 4) (.var 5) (.bin .Add (.idx (.var 4) (.var 5)) (.lit (.int 1))), .asg [(.var 5)] (.lit (.int 0))] [.brk]]],
 .setAttr (.var 0) 1 (.var 6),
 .setAttr (.var 0) 2 (.var 7),
 .setAttr (.var 0) 3 (.tup [(.bi .tuple [(.var 4)]), (.var 5)]),
 .setAttr (.var 0) 4 (.cmp .LtE (.bi .len [(.var 4)]) (.lit (.int 1)))]⟩
end Ev
end
section
namespace Ev
open PySem
section
variable {Δ : Dl} {n : Nat} {vars vars' dG : af} {σ σ' σ1 σ2 : ae}
section
variable {c : af → ae → Option (Bool × ae)} {f : af → ae → Option (aI × af × ae)}
theorem uP (h : c vars σ = some (false, σ1)) : eV c f (n + 1) vars σ = some (.next, vars, σ1) := by
 show ((c vars σ).bind fun p => if p.1 = true then (f vars p.2).bind fun r => ia r (eV c f n) else some (.next, vars, p.2)) = _
 rw [h]; rfl
theorem zZ {r : aI × af × ae} (h : c vars σ = some (true, σ1)) (h2 : f vars σ1 = some r) : eV c f (n + 1) vars σ = ia r (eV c f n) := by
 show ((c vars σ).bind fun p => if p.1 = true then (f vars p.2).bind fun r => ia r (eV c f n) else some (.next, vars, p.2)) = _
 rw [h]
 show (f vars σ1).bind _ = _
 rw [h2]; rfl
end
theorem eM {f : D → af → ae → Option (aI × af × ae)} {d : D} {ds : List D} {r : aI × af × ae} (h : f d vars σ = some r) : cC f (d :: ds) vars σ = ia r (cC f ds) := by
 show (f d vars σ).bind _ = _
 rw [h]; rfl
theorem bu {st : S} {ss : List S} (h : bK Δ n st vars σ = some (.next, vars', σ')) : aJ Δ (n + 1) (st :: ss) vars σ = aJ Δ n ss vars' σ' := by
 show (match bK Δ n st vars σ with | some (.next, vars, σ) => aJ Δ n ss vars σ | r => r) = _
 rw [h]
theorem gm {st : S} {ss : List S} {d : D} (h : bK Δ n st vars σ = some (.ret d, vars', σ')) : aJ Δ (n + 1) (st :: ss) vars σ = some (.ret d, vars', σ') := by
 show (match bK Δ n st vars σ with | some (.next, vars, σ) => aJ Δ n ss vars σ | r => r) = _
 rw [h]
theorem aP {α β : Type} {f : ae → Option (α × ae)} {k : α → ae → Option β} {x : α} (h : f σ = some (x, σ1)) : seq1 f k σ = k x σ1 := by unfold seq1; rw [h]; rfl
theorem pK {c : E} {a b : List S} {t : Bool} (h : aX Δ n c vars σ = some (t, σ')) : bK Δ (n + 1) (.ite c a b) vars σ = if t then aJ Δ n a vars σ' else aJ Δ n b vars σ' := aP (k := fun t σ => if t = true then aJ Δ n a vars σ else aJ Δ n b vars σ) h
theorem gO {c : E} {a b : List S} {r : Option (aI × af × ae)} (h : aX Δ n c vars σ = some (true, σ1)) (k : aJ Δ n a vars σ1 = r) : bK Δ (n + 1) (.ite c a b) vars σ = r := (pK h).trans k
theorem gM {c : E} {a b : List S} {r : Option (aI × af × ae)} (h : aX Δ n c vars σ = some (false, σ1)) (k : aJ Δ n b vars σ1 = r) : bK Δ (n + 1) (.ite c a b) vars σ = r := (pK h).trans k
theorem BR {ts : List T} {e : E} {d : D} (h : ah Δ n e vars σ = some (d, σ')) (hv : iJ ts d vars = some vars') : bK Δ (n + 1) (.asg ts e) vars σ = some (.next, vars', σ') := (aP (k := fun d σ => (iJ ts d vars).map fun vars => (aI.next, vars, σ)) h).trans (by rw [hv]; rfl)
theorem bR {i : Nat} {e : E} {d : D} (h : ah Δ n e vars σ = some (d, σ')) (hv : cO vars i d = some vars') : bK Δ (n + 1) (.asg [.var i] e) vars σ = some (.next, vars', σ') := BR h (by show (cO vars i d).bind _ = _; rw [hv]; rfl)
theorem pL {e : E} {d x : D} (h : ah Δ n e vars σ = some (x, σ1)) (hf : cS σ1 x = some (d, σ2)) : bK Δ (n + 1) (.ret e) vars σ = some (.ret d, vars, σ2) := (aP (k := fun (d : D) (σ : ae) => (Ev.cS σ d).map fun (p : D × ae) => (aI.ret p.1, vars, p.2)) h).trans (by show (Ev.cS σ1 x).map _ = _; rw [hf]; rfl)
theorem fQ {f : Nat} {es : List E} {ds : List D} {d : D} (h : bA Δ n es vars σ = some (ds, σ')) (hp : D.aL ds = true) (hf : Δ.fns f ds = some d) : ah Δ (n + 1) (.call f es) vars σ = some (d, σ') := (aP h).trans (by unfold lI; rw [if_pos hp, hf]; rfl)
theorem Pc {f : Fn} {args : List D} {d : D} {v : af} (hl : args.length = f.np) (hp : D.aL args = true) (h : aJ Δ n f.body (cZ f args) [] = some (.ret d, v, σ)) (hd : d.pure = true) : cM Δ n f args = some d := by
 unfold cM
 rw [if_pos (by rw [hl, hp, beq_self_eq_true]; rfl), h]
 show (if d.pure = true then some d else none) = _
 rw [if_pos hd]
theorem cV {st : S} (h : bK Δ (n + 1) st vars σ = some (.next, vars', σ')) : aJ Δ (n + 1 + 1) [st] vars σ = some (.next, vars', σ') := (bu h).trans rfl
noncomputable def aE (Δ : Dl) (n : Nat) (ss : List S) (vars : af) (σ : ae) (d : D) : Prop := ∃ v s, aJ Δ n ss vars σ = some (.ret d, v, s)
theorem aE.step {st : S} {ss : List S} {d : D} (h : bK Δ n st vars σ = some (.next, vars', σ')) (k : aE Δ n ss vars' σ' d) : aE Δ (n + 1) (st :: ss) vars σ d := let ⟨v, s, k⟩ := k; ⟨v, s, (bu h).trans k⟩
theorem aE.asg {i : Nat} {e : E} {ss : List S} {d x : D} (h : ah Δ n e vars σ = some (x, σ)) (hv : cO vars i x = some vars') (k : aE Δ (n + 1) ss vars' σ d) : aE Δ (n + 1 + 1) (.asg [.var i] e :: ss) vars σ d := .step (bR h hv) k
theorem aE.lF {ts : List T} {e : E} {ss : List S} {d x : D} (h : ah Δ n e vars σ = some (x, σ)) (hv : iJ ts x vars = some vars') (k : aE Δ (n + 1) ss vars' σ d) : aE Δ (n + 1 + 1) (.asg ts e :: ss) vars σ d := .step (BR h hv) k
theorem aE.ret {e : E} {ss : List S} {d x : D} (h : ah Δ n e vars σ = some (x, σ)) (hf : cS σ x = some (d, σ2)) : aE Δ (n + 1 + 1) (.ret e :: ss) vars σ d := ⟨vars, σ2, gm (pL h hf)⟩
theorem aE.n5 {c : E} {a b ss : List S} {d : D} (h : aX Δ n c vars σ = some (true, σ)) (k : aE Δ n a vars σ d) : aE Δ (n + 1 + 1) (.ite c a b :: ss) vars σ d := let ⟨v, s, k⟩ := k; ⟨v, s, gm ((pK h).trans k)⟩
theorem aE.skip {c : E} {a ss : List S} {d : D} (h : aX Δ (n + 1) c vars σ = some (false, σ)) (k : aE Δ (n + 1 + 1) ss vars σ d) : aE Δ (n + 1 + 1 + 1) (.ite c a [] :: ss) vars σ d := .step ((pK h).trans rfl) k
theorem aE.run {f : Fn} {args : List D} {d : D} (h : aE Δ n f.body (cZ f args) [] d) (hl : args.length = f.np) (hp : D.aL args = true) (hd : d.pure = true) : cM Δ n f args = some d := let ⟨v, s, h⟩ := h; Pc hl hp h hd
end
theorem uv {σ : ae} {d : D} (h : d.pure = true) : res σ d = some d := by cases d <;> first | rfl | exact ai h
theorem OU {σ : ae} {l : Nat} : res σ (.loc l) = (match σ[l]? with
  | some (some (.lst xs)) => some (.lst xs)
  | _ => none) := rfl
theorem jW {σ : ae} {l : Nat} {xs : List D} (h : σ[l]? = some (some (.lst xs))) : res σ (.loc l) = some (.lst xs) := by rw [OU, h]
theorem tX {σ : ae} {l : Nat} {xs : List D} (h : σ[l]? = some (some (.lst xs))) : iU σ (.loc l) = some (l, xs) := by
 show (match σ[l]? with | some (some (.lst xs)) => some (l, xs) | _ => none) = _
 rw [h]
section
variable {Δ : Dl} {n : Nat} {vars vars' dG : af} {σ σ' σ1 σ2 bf : ae} {a b e : E} {x y d : D} {xs : List D}
theorem aN {es : List E} (h1 : ah Δ n a vars σ = some (x, σ1)) (h2 : bA Δ n es vars σ1 = some (xs, σ2)) : bA Δ (n + 1) (a :: es) vars σ = some (x :: xs, σ2) :=
 (aP (k := fun d => seq1 (bA Δ n es vars) fun ds σ => some (d :: ds, σ)) h1).trans ((aP (k := fun ds σ => some (x :: ds, σ)) h2).trans rfl)
theorem sI {op : Operator} (h1 : ah Δ n a vars σ = some (x, σ1)) (h2 : ah Δ n b vars σ1 = some (y, σ2)) : ah Δ (n + 1) (.bin op a b) vars σ = nB Δ op x y σ2 :=
 (aP (k := fun x => seq1 (ah Δ n b vars) (nB Δ op x)) h1).trans (aP h2)
theorem aR {op : Operator} {i j k : Int} (h1 : ah Δ n a vars σ = some (.int i, σ1)) (h2 : ah Δ n b vars σ1 = some (.int j, σ2)) (h : gb op i j = some (.int k)) : ah Δ (n + 1) (.bin op a b) vars σ = some (.int k, σ2) := by
 rw [sI h1 h2]
 show jB Δ op (.int i) (.int j) σ2 = _
 have h0 : nu op (.int i) (.int j) = none := by cases op <;> rfl
 unfold jB
 rw [h0]
 show (gb op i j).bind _ = _
 rw [h]; rfl
theorem bY {k : Int} (h1 : ah Δ n a vars σ = some (x, σ1)) (h2 : ah Δ n b vars σ1 = some (.int k, σ2)) (hr : res σ2 x = some y) (hs : qH y = some xs) (h0 : 0 ≤ k) (hk : small k = true) (hg : xs[k.toNat]? = some d) : ah Δ (n + 1) (.idx a b) vars σ = some (d, σ2) :=
 (aP (k := fun x => seq1 (ah Δ n b vars) (xx x)) h1).trans ((aP h2).trans (by
  show (res σ2 x).bind _ = _
  rw [hr]
  show (((qH y).bind fun xs => if 0 ≤ k ∧ small k = true then xs[k.toNat]? else none).map _) = _
  rw [hs]
  show ((if 0 ≤ k ∧ small k = true then xs[k.toNat]? else none).map _) = _
  rw [if_pos ⟨h0, hk⟩, hg]; rfl))
theorem lN (h1 : ah Δ n a vars σ = some (x, σ1)) (hr : res σ1 x = some (.lst xs)) (hl : xs.length ≤ az) : ah Δ (n + 1 + 1) (.bi .len [a]) vars σ = some (.int xs.length, σ1) := by
 have h : bA Δ (n + 1) [a] vars σ = some ([x], σ1) := (aP (k := fun d => seq1 (bA Δ n [] vars) fun ds σ => some (d :: ds, σ)) h1).trans (by cases n <;> first | rfl | (cases h1))
 refine (aP (k := jb .len) h).trans ?_
 show ((res σ1 x).bind fun z => (jq σ1 []).map (z :: ·)).bind _ = _
 rw [hr]
 show (if xs.length ≤ az then some (D.int xs.length) else none).map _ = _
 rw [if_pos hl]; rfl
theorem ig {op : CmpOp} {x' y' : D} {r : Bool} (h1 : ah Δ n a vars σ = some (x, σ1)) (h2 : ah Δ n b vars σ1 = some (y, σ2)) (hx : res σ2 x = some x') (hy : res σ2 y = some y') (h : b8 op x' y' = some r) : ah Δ (n + 1) (.cmp op a b) vars σ = some (.bool r, σ2) :=
 (aP (k := fun x => seq1 (ah Δ n b vars) (vE op x)) h1).trans ((aP h2).trans (by
  show (res σ2 x).bind _ = _
  rw [hx]
  show (res σ2 y).bind _ = _
  rw [hy]
  show (b8 op x' y').map _ = _
  rw [h]; rfl))
theorem bU {op : CmpOp} {x' y' : D} {r : Bool} (h1 : ah Δ n a vars σ = some (x, σ1)) (h2 : ah Δ n b vars σ1 = some (y, σ2)) (hx : res σ2 x = some x') (hy : res σ2 y = some y') (h : b8 op x' y' = some r) : aX Δ (n + 1 + 1) (.cmp op a b) vars σ = some (r, σ2) :=
 (aP (k := fun x σ => (g8 x σ).map fun t => (t, σ)) (ig h1 h2 hx hy h)).trans rfl
theorem BN {xs ys : List D} (h1 : ah Δ n a vars σ = some (x, σ1)) (h2 : ah Δ n b vars σ1 = some (y, σ2)) (hx : res σ2 x = some (.lst xs)) (hy : res σ2 y = some (.lst ys)) (h : xs.length + ys.length ≤ az) : ah Δ (n + 1) (.bin .Add a b) vars σ = some (.loc σ2.length, σ2 ++ [some (.lst (xs ++ ys))]) := by
 rw [sI h1 h2]
 show (res σ2 x).bind _ = _
 rw [hx]
 show (res σ2 y).bind _ = _
 rw [hy]
 show (if xs.length + ys.length ≤ az then _ else none) = _
 rw [if_pos h]
theorem Jk {k : Int} (h1 : ah Δ n a vars σ = some (x, σ1)) (h2 : ah Δ n b vars σ1 = some (.int k, σ2)) (hk : small k = true) (hm : k.toNat ≤ az) : ah Δ (n + 1) (.rep a b) vars σ = some (.lst (List.replicate k.toNat x), σ2) :=
 (aP (k := fun x => seq1 (ah Δ n b vars) (y9 x)) h1).trans ((aP h2).trans (by
  show (if (small k && decide (k.toNat ≤ az)) = true then _ else none) = _
  rw [if_pos (by rw [hk, decide_eq_true hm]; rfl)]))
theorem BS {o i : E} {k : Int} {l : Nat} (h1 : ah Δ n e vars σ = some (d, σ1)) (h2 : ah Δ n o vars σ1 = some (.loc l, σ2)) (h3 : ah Δ n i vars σ2 = some (.int k, bf)) (hl : bf[l]? = some (some (.lst xs))) (h0 : 0 ≤ k) (hk : small k = true) (hg : k.toNat < xs.length) :
  bK Δ (n + 1) (.dJ o i e) vars σ = some (.next, vars, bf.set l (some (.lst (xs.set k.toNat d)))) :=
 (aP (k := fun d => seq1 (ah Δ n o vars) fun x => seq1 (ah Δ n i vars) (uF vars d x)) h1).trans ((aP (k := fun x => seq1 (ah Δ n i vars) (uF vars d x)) h2).trans ((aP h3).trans (by
  show (iU bf (.loc l)).bind _ = _
  have h4 : iU bf (.loc l) = some (l, xs) := tX hl
  rw [h4]
  show (if 0 ≤ k ∧ small k = true ∧ k.toNat < xs.length then _ else none) = _
  rw [if_pos ⟨h0, hk, hg⟩])))
end
theorem gW {b : Nat} (h : b ≤ 10000000) : small (b : Int) = true := by unfold small; exact decide_eq_true (by lia)
theorem vX {Δ : Dl} {n : Nat} {aq : List (Option Nat)} {elt it : E} {t : T} {ifs : List E} {vars : af} {σ σ' σ2 : ae} {ds rs : List D} (hi : ef Δ n it vars σ = some (ds, σ')) (hc : dD vars aq = true) (hl : ds.length ≤ az)
  (h : d8 (fq t (fun vs σ => iD Δ n ifs vs σ) (fun vs σ => ah Δ n elt vs σ)) ds (cP vars aq) σ' = some (rs, σ2)) : ah Δ (n + 1) (.comp aq elt t it ifs) vars σ = some (.lst rs, σ2) :=
 (aP (k := fun (ds : List D) (σ : ae) => if dD vars aq && decide (ds.length ≤ az) then (d8 (fq t (fun vs σ => iD Δ n ifs vs σ) (fun vs σ => ah Δ n elt vs σ)) ds (cP vars aq) σ).map fun (p : List D × ae) => (D.lst p.1, p.2) else none) hi).trans (by
  show (if (dD vars aq && decide (ds.length ≤ az)) = true then (d8 (fq t (fun vs σ => iD Δ n ifs vs σ) (fun vs σ => ah Δ n elt vs σ)) ds (cP vars aq) σ').map (fun p => (D.lst p.1, p.2)) else none) = _
  rw [if_pos (by rw [hc, decide_eq_true hl]; rfl), h]; rfl)
noncomputable def my : List S := [.ite (.cmp .Eq (.var 8) (.var 2)) [.asg [(.var 6)] (.bin .Add (.var 6) (.lit (.int 1))), .asg [(.var 5)] (.bin .Add (.var 5) (.lit (.int 1)))] [.ite (.cmp .Eq (.var 8) (.var 3)) [.asg [(.var 6)] (.bin .Add (.var 6) (.lit (.int 1))), .asg [(.var 7)] (.bin .Add (.var 7) (.lit (.int 1))), .ite (.cmp .GtE (.var 5) (.bi .len [(.var 4)])) [.asg [(.var 4)] (.bin .Add (.var 4) (.rep (.lit (.int 0)) (.bin .Add (.bin .Sub (.var 5) (.bi .len [(.var 4)])) (.lit (.int 1)))))] [], .dJ (.var 4) (.var 5) (.bin .Add (.idx (.var 4) (.var 5)) (.lit (.int 1))), .asg [(.var 5)] (.lit (.int 0))] [.brk]]]
noncomputable def bump : List Int → Nat → List Int := @fun aa ak => match aa, ak with
 | [], 0 => [1]
 | [], b + 1 => 0 :: bump [] b
 | c :: cs, 0 => (c + 1) :: cs
 | c :: cs, b + 1 => c :: bump cs b
theorem vt : ∀ (cs : List Int) (b : Nat), (bump cs b).length = max cs.length (b + 1) := @fun aa ak => match aa, ak with
 | [], 0 => rfl
 | [], b + 1 => by simp [bump, vt [] b]
 | c :: cs, 0 => by simp [bump]
 | c :: cs, b + 1 => by simp [bump, vt cs b]
theorem AU : ∀ {cs : List Int} {b : Nat}, b < cs.length → ∃ c, cs[b]? = some c ∧ cs.set b (c + 1) = bump cs b := @fun aa ak aS => match aa, ak, aS with
 | c :: cs, 0, υ1 => ⟨c, rfl, rfl⟩
 | c :: cs, b + 1, h => by
  obtain ⟨c', h1, h2⟩ := AU (cs := cs) (b := b) (by simpa using h)
  exact ⟨c', by simpa using h1, by simp [bump, h2]⟩
theorem rR : ∀ {cs : List Int} {b : Nat}, cs.length ≤ b → (cs ++ List.replicate (b - cs.length + 1) 0).set b 1 = bump cs b ∧ (cs ++ List.replicate (b - cs.length + 1) 0)[b]? = some 0 := @fun aa ak => @(match aa, ak with
 | [], 0 => @fun ξ => ⟨rfl, rfl⟩
 | [], b + 1 => @fun ξ => by
  obtain ⟨h1, h2⟩ := rR (cs := []) (b := b) (by simp)
  simp [List.replicate_succ] at h1 h2 ⊢
  simp [bump, h1]
  exact h2
 | c :: cs, 0 => @fun h => by simp at h
 | c :: cs, b + 1 => @fun h => by
  obtain ⟨h1, h2⟩ := rR (cs := cs) (b := b) (by simpa using h)
  simp [bump, h1, h2])
noncomputable abbrev iv (t : List Nat) (l : Nat) (b n nt : Int) (x8 x9 aW aV : Option D) : af := [some (.loc 0), some (.str t), some (.str [32]), some (.str [9]), some (.loc l), some (.int b), some (.int n), some (.int nt), x8, x9, aW, aV]
theorem LY {Δ : Dl} {t : List Nat} {l : Nat} {b n nt : Int} {x9 aW aV : Option D} {σ : ae} :
  aJ Δ 194 my (iv t l b n nt (some (.str [32])) x9 aW aV) σ = some (.next, iv t l (b + 1) (n + 1) nt (some (.str [32])) x9 aW aV, σ) := rfl
theorem L2 {Δ : Dl} {t : List Nat} {l : Nat} {b n nt : Int} {x9 aW aV : Option D} {σ : ae} :
  aJ Δ 194 my (iv t l b n nt (some (.str [120])) x9 aW aV) σ = some (.brk, iv t l b n nt (some (.str [120])) x9 aW aV, σ) := rfl
noncomputable def uK : List S := [.asg [(.var 6)] (.bin .Add (.var 6) (.lit (.int 1))), .asg [(.var 7)] (.bin .Add (.var 7) (.lit (.int 1))), .ite (.cmp .GtE (.var 5) (.bi .len [(.var 4)])) [.asg [(.var 4)] (.bin .Add (.var 4) (.rep (.lit (.int 0)) (.bin .Add (.bin .Sub (.var 5) (.bi .len [(.var 4)])) (.lit (.int 1)))))] [], .dJ (.var 4) (.var 5) (.bin .Add (.idx (.var 4) (.var 5)) (.lit (.int 1))), .asg [(.var 5)] (.lit (.int 0))]
section
variable {Δ : Dl} {t : List Nat} {l b : Nat} {n nt : Int} {x8 x9 aW aV : Option D} {σ σ' : ae} {cs Rf : List Int} {c : Int}
theorem GI (hl : σ[l]? = some (some (.lst (cs.map .int)))) (hb : cs[b]? = some c) (h2 : b ≤ 10000) :
  aJ Δ 187 (uK.drop 3) (iv t l b n nt x8 x9 aW aV) σ = some (.next, iv t l 0 n nt x8 x9 aW aV, σ.set l (some (.lst ((cs.set b (c + 1)).map .int)))) := by
 have jP : small (b : Int) = true := gW (Nat.le_trans h2 (by decide))
 have hg : (cs.map D.int)[(b : Int).toNat]? = some (.int c) := by rw [List.getElem?_map, Int.toNat_natCast, hb]; rfl
 have aZ : (b : Int).toNat < (cs.map D.int).length := (List.getElem?_eq_some_iff.mp hg).1
 rw [List.map_set]
 exact (bu (BS (aR (bY (a := .var 4) (b := .var 5) rfl rfl (jW hl) rfl (Int.natCast_nonneg b) jP hg) (b := .lit (.int 1)) rfl rfl) (o := .var 4) (i := .var 5) rfl rfl hl (Int.natCast_nonneg b) jP aZ)).trans rfl
theorem Qq (hl : σ[l]? = some (some (.lst (cs.map .int)))) (h1 : cs.length ≤ 10000) (hb : b < cs.length) (hc : cs[b]? = some c) :
  aJ Δ 190 uK (iv t l b n nt x8 x9 aW aV) σ = some (.next, iv t l 0 (n + 1) (nt + 1) x8 x9 aW aV, σ.set l (some (.lst ((cs.set b (c + 1)).map .int)))) := by
 have hk : (cs.map D.int).length ≤ az := by rw [List.length_map]; exact Nat.le_trans h1 (by decide)
 have hq : decide ((b : Int) ≥ ((cs.map D.int).length : Int)) = false := by rw [List.length_map]; exact decide_eq_false (by lia)
 refine (bu (bR rfl rfl)).trans ((bu (bR rfl rfl)).trans ((bu ((pK (bU (a := .var 5) rfl (lN (a := .var 4) rfl (jW hl) hk) rfl rfl (show b8 .GtE (.int (b : Int)) (.int ((cs.map D.int).length : Int)) = some false from congrArg some hq))).trans rfl)).trans ?_))
 exact GI hl hc (Nat.le_of_lt (Nat.lt_of_lt_of_le hb h1))
theorem JA {m b : Nat} (h : m ≤ b) : ((b : Int) - (m : Int) + 1).toNat = b - m + 1 := by lia
theorem JB (cs : List Int) (k : Nat) : cs.map D.int ++ List.replicate k (.int 0) = (cs ++ List.replicate k 0).map .int := by rw [List.map_append, List.map_replicate]
theorem Qs (hl : σ[l]? = some (some (.lst (cs.map .int)))) (hb : cs.length ≤ b) (h2 : b ≤ 10000) :
  aJ Δ 190 uK (iv t l b n nt x8 x9 aW aV) σ = some (.next, iv t σ.length 0 (n + 1) (nt + 1) x8 x9 aW aV, (σ ++ [some (cN.lst ((cs ++ List.replicate (b - cs.length + 1) 0).map .int))]).set σ.length (some (.lst (((cs ++ List.replicate (b - cs.length + 1) 0).set b 1).map .int)))) := by
 have hk : (cs.map D.int).length ≤ az := by rw [List.length_map]; exact Nat.le_trans (Nat.le_trans hb h2) (by decide)
 have hq : decide ((b : Int) ≥ ((cs.map D.int).length : Int)) = true := by rw [List.length_map]; exact decide_eq_true (by lia)
 have hr : ((b : Int) - ((cs.map D.int).length : Int) + 1).toNat = b - cs.length + 1 := by rw [List.length_map]; exact JA hb
 have hs : small ((b : Int) - ((cs.map D.int).length : Int) + 1) = true := by rw [List.length_map]; unfold small; exact decide_eq_true (by lia)
 have hm : (b - cs.length + 1) ≤ az := by unfold az; lia
 have hz : (cs.map D.int).length + (List.replicate (b - cs.length + 1) (D.int 0)).length ≤ az := by rw [List.length_map, List.length_replicate]; unfold az; lia
 have e4 : ah Δ 184 (.bin .Add (.var 4) (.rep (.lit (.int 0)) (.bin .Add (.bin .Sub (.var 5) (.bi .len [(.var 4)])) (.lit (.int 1))))) (iv t l b (n + 1) (nt + 1) x8 x9 aW aV) σ = some (.loc σ.length, σ ++ [some (cN.lst (cs.map D.int ++ List.replicate (b - cs.length + 1) (.int 0)))]) := by
  rw [← hr] at hm hz ⊢
  exact BN (a := .var 4) rfl (Jk (a := .lit (.int 0)) rfl (aR (aR (a := .var 5) rfl (lN (a := .var 4) rfl (jW hl) hk) rfl) (b := .lit (.int 1)) rfl rfl) hs hm) (jW hl) rfl hz
 refine (bu (bR rfl rfl)).trans ((bu (bR rfl rfl)).trans ((bu (gO (bU (a := .var 5) rfl (lN (a := .var 4) rfl (jW hl) hk) rfl rfl (show b8 .GtE (.int (b : Int)) (.int ((cs.map D.int).length : Int)) = some true from congrArg some hq)) (cV (bR (i := 4) e4 rfl)))).trans ?_))
 rw [JB]
 exact GI (l := σ.length) (List.getElem?_concat_length ..) (rR hb).2 h2
theorem Dk {vars' : af} {σ' : ae} (h : aJ Δ 190 uK (iv t l b n nt (some (.str [9])) x9 aW aV) σ = some (.next, vars', σ')) : aJ Δ 194 my (iv t l b n nt (some (.str [9])) x9 aW aV) σ = some (.next, vars', σ') :=
 cV (gM (c := .cmp .Eq (.var 8) (.var 2)) rfl (cV (gO (c := .cmp .Eq (.var 8) (.var 3)) rfl h)))
theorem L0 (hl : σ[l]? = some (some (.lst (cs.map .int)))) (h1 : cs.length ≤ 10000) (h2 : b ≤ 10000) :
  ∃ l' σ', aJ Δ 194 my (iv t l b n nt (some (.str [9])) x9 aW aV) σ = some (.next, iv t l' 0 (n + 1) (nt + 1) (some (.str [9])) x9 aW aV, σ') ∧ σ'[l']? = some (some (.lst ((bump cs b).map .int))) ∧ (σ.length = σ'.length ∧ l' = l ∨ σ'.length = σ.length + 1 ∧ l' = σ.length) ∧ ∀ j, j < l → σ'[j]? = σ[j]? := by
 have aZ : l < σ.length := (List.getElem?_eq_some_iff.mp hl).1
 rcases Nat.lt_or_ge b cs.length with hb | hb
 ·obtain ⟨c, e1, e2⟩ := AU hb
  have h := Qq (Δ := Δ) (t := t) (n := n) (nt := nt) (x8 := some (.str [9])) (x9 := x9) (aW := aW) (aV := aV) hl h1 hb e1
  rw [e2] at h
  exact ⟨l, _, Dk h, List.getElem?_set_self aZ, .inl ⟨(List.length_set ..).symm, rfl⟩, fun j hj => List.getElem?_set_ne (Nat.ne_of_gt hj)⟩
 ·have h := Qs (Δ := Δ) (t := t) (n := n) (nt := nt) (x8 := some (.str [9])) (x9 := x9) (aW := aW) (aV := aV) hl hb h2
  rw [(rR hb).1] at h
  have hn : (σ ++ [some (cN.lst ((cs ++ List.replicate (b - cs.length + 1) 0).map .int))]).length = σ.length + 1 := List.length_append ..
  refine ⟨σ.length, _, Dk h, List.getElem?_set_self (by rw [hn]; exact Nat.lt_succ_self _), .inr ⟨by rw [List.length_set, hn], rfl⟩, fun j hj => ?_⟩
  rw [List.getElem?_set_ne (Nat.ne_of_gt (Nat.lt_trans hj aZ)), List.getElem?_append_left (Nat.lt_trans hj aZ)]
end
end Ev
end
section
namespace Ev
open PySem
noncomputable def bZ (runs : List Nat) : List Nat := runs.flatMap fun r => List.replicate r 32 ++ [9]
noncomputable def fc (runs : List Nat) (tr : Nat) (rest : List Nat) : List Nat := bZ runs ++ (List.replicate tr 32 ++ 120 :: rest)
noncomputable def jr : List Nat → Nat := @fun aa => match aa with
 | [] => 0
 | r :: rs => r + 1 + jr rs
noncomputable def c7 (text : List Nat) (cs : List Int) (tr n nt : Int) : D := .inst [(0, .str text), (1, .int n), (2, .int nt), (3, .tup [.tup (cs.map .int), .int tr]), (4, .bool (decide (cs.length ≤ 1)))]
theorem n8 : ∀ (a b : List Nat), bL (a ++ b) = bL a ++ bL b := @fun aa => @(match aa with
 | [] => @fun b => rfl
 | c :: a => @fun b => by simp [bL, n8 a b])
theorem yV : ∀ (cs : List Int), D.aL (cs.map .int) = true := @fun aa => match aa with
 | [] => rfl
 | c :: cs => by simp [D.aL, D.pure, yV cs]
noncomputable def mz (Δ : Dl) : D → af → ae → Option (aI × af × ae) := fun d vars σ => (cz (.var 8) d vars).bind fun vars => aJ Δ 194 my vars σ
theorem xE {Δ : Dl} {t : List Nat} {l : Nat} {b n nt : Int} {x8 x9 aW aV : Option D} {σ : ae} {d : D} {r : Option (aI × af × ae)} (h : aJ Δ 194 my (iv t l b n nt (some d) x9 aW aV) σ = r) : mz Δ d (iv t l b n nt x8 x9 aW aV) σ = r := h
theorem add_succ {b : Int} {r : Nat} : b + 1 + (r : Int) = b + ((r + 1 : Nat) : Int) := by lia
theorem DT {r : Nat} {ds : List D} : bL (List.replicate (r + 1) 32) ++ ds = .str [32] :: (bL (List.replicate r 32) ++ ds) := rfl
theorem xF {Δ : Dl} {t : List Nat} {l : Nat} {nt : Int} {x9 aW aV : Option D} {σ : ae} {ds : List D} : ∀ (r : Nat) (b n : Int) (x8 : Option D), ∃ lz, cC (mz Δ) (bL (List.replicate r 32) ++ ds) (iv t l b n nt x8 x9 aW aV) σ = cC (mz Δ) ds (iv t l (b + r) (n + r) nt lz x9 aW aV) σ := @fun aa => @(match aa with
 | 0 => @fun b n x8 => ⟨x8, by rw [Int.natCast_zero, Int.add_zero, Int.add_zero]; rfl⟩
 | r + 1 => @fun b n x8 => by
  obtain ⟨lz, e⟩ := xF (ds := ds) r (b + 1) (n + 1) (some (.str [32]))
  refine ⟨lz, ?_⟩
  rw [DT, eM (xE LY), ← add_succ, ← add_succ]
  exact e)
theorem Pe {n : Int} {r : Nat} {runs : List Nat} : n + (r : Int) + 1 + ((jr runs : Nat) : Int) = n + ((jr (r :: runs) : Nat) : Int) := by
 show _ = n + ((r + 1 + jr runs : Nat) : Int)
 lia
theorem Pd {nt : Int} {r : Nat} {runs : List Nat} : nt + 1 + ((runs.length : Nat) : Int) = nt + (((r :: runs).length : Nat) : Int) := by
 show _ = nt + ((runs.length + 1 : Nat) : Int)
 lia
theorem Ic {cs : List Int} {r : Nat} (hc : cs.length ≤ 10000) (hr : r ≤ 9999) : (bump cs r).length ≤ 10000 := by rw [vt]; lia
theorem Dj {Δ : Dl} {t : List Nat} {x9 aW aV : Option D} {ds : List D} : ∀ (runs : List Nat) (cs : List Int) (l : Nat) (n nt : Int) (x8 : Option D) (σ : ae), σ[l]? = some (some (.lst (cs.map .int))) → 1 ≤ l → cs.length ≤ 10000 → (∀ r ∈ runs, r ≤ 9999) →
  ∃ l' σ' lz, cC (mz Δ) (bL (bZ runs) ++ ds) (iv t l 0 n nt x8 x9 aW aV) σ = cC (mz Δ) ds (iv t l' 0 (n + (jr runs : Nat)) (nt + (runs.length : Nat)) lz x9 aW aV) σ' ∧ σ'[l']? = some (some (.lst ((runs.foldl bump cs).map .int))) ∧ 1 ≤ l' ∧ σ'[0]? = σ[0]? ∧ (runs.foldl bump cs).length ≤ 10000 := @fun aa => @(match aa with
 | [] => @fun cs l n nt x8 σ hl h1 hc ξ => ⟨l, σ, x8, by rw [show ((jr [] : Nat) : Int) = 0 from rfl, show ((([] : List Nat).length : Nat) : Int) = 0 from rfl, Int.add_zero, Int.add_zero]; rfl, hl, h1, rfl, hc⟩
 | r :: runs => @fun cs l n nt x8 σ hl h1 hc hr => by
  have C2 : r ≤ 9999 := hr r List.mem_cons_self
  obtain ⟨lz, e1⟩ := xF (Δ := Δ) (t := t) (l := l) (nt := nt) (x9 := x9) (aW := aW) (aV := aV) (σ := σ) (ds := .str [9] :: (bL (bZ runs) ++ ds)) r 0 n x8
  obtain ⟨l1, σ1, e2, e3, e4, e5⟩ := L0 (Δ := Δ) (t := t) (n := n + r) (nt := nt) (x9 := x9) (aW := aW) (aV := aV) hl hc (Nat.le_trans C2 (by decide))
  have wW : 1 ≤ l1 := by
   rcases e4 with ⟨_, h⟩ | ⟨_, h⟩
   ·rw [h]; exact h1
   ·rw [h]; exact Nat.le_trans h1 (Nat.le_of_lt (List.getElem?_eq_some_iff.mp hl).1)
  obtain ⟨l2, σ2, QZ, f1, f2, f3, f4, f5⟩ := Dj (Δ := Δ) (t := t) (x9 := x9) (aW := aW) (aV := aV) (ds := ds) runs (bump cs r) l1 (n + r + 1) (nt + 1) (some (.str [9])) σ1 e3 wW (Ic hc C2) (fun q hq => hr q (List.mem_cons_of_mem _ hq))
  refine ⟨l2, σ2, QZ, ?_, f2, f3, f4.trans (e5 0 h1), f5⟩
  have ht : bZ (r :: runs) = List.replicate r 32 ++ (9 :: bZ runs) := List.append_assoc (List.replicate r 32) [9] (bZ runs)
  rw [ht, n8, List.append_assoc]
  refine e1.trans ?_
  rw [Int.zero_add, eM (xE e2), ← Pe, ← Pd]
  exact f1)
theorem MC {t : List Nat} (h : t.all (· < 128) = true) : itemsOf (.str t) = some (bL t) := if_pos h
theorem DS : ∀ {a : List Nat}, (bL a).length = a.length := @fun aa => match aa with
 | [] => rfl
 | υ1 :: r => congrArg (· + 1) (DS (a := r))
theorem DX {t : List Nat} {σ : ae} (h : t.all (· < 128) = true) (hl : t.length ≤ az) : jj (.str t) σ = some (bL t, σ) := by
 show (itemsOf (.str t)).bind _ = _
 rw [MC h]
 show (if (bL t).length ≤ az then _ else none) = _
 rw [if_pos (by rw [DS]; exact hl)]
section
variable {Δ : Dl} {n : Nat} {vars : af} {σ σ1 σ2 : ae}
theorem sL {e o : E} {k l : Nat} {d : D} {as : List (Nat × D)} (h1 : ah Δ n e vars σ = some (d, σ1)) (h2 : ah Δ n o vars σ1 = some (.loc l, σ2)) (hl : σ2[l]? = some (some (.inst as))) (hk : as.lookup k = none ∧ as.length < 20) : bK Δ (n + 1) (.setAttr o k e) vars σ = some (.next, vars, σ2.set l (some (.inst (as ++ [(k, d)])))) :=
 (aP (k := fun d => seq1 (ah Δ n o vars) (zj k vars d)) h1).trans ((aP h2).trans (by
  have h4 : n6 σ2 (.loc l) = some (l, as) := by
   show (match σ2[l]? with | some (some (.inst as)) => some (l, as) | _ => none) = _
   rw [hl]
  show (n6 σ2 (.loc l)).bind _ = _
  rw [h4]
  show (if as.lookup k = none ∧ as.length < 20 then _ else none) = _
  rw [if_pos hk]))
theorem gK {t : T} {it : E} {b : List S} {ds : List D} (h : ef Δ n it vars σ = some (ds, σ1)) : bK Δ (n + 1) (.for t it b) vars σ = cC (fun d vars σ => (cz t d vars).bind fun vars => aJ Δ n b vars σ) ds vars σ1 :=
 aP (k := fun ds σ => cC (fun d vars σ => (cz t d vars).bind fun vars => aJ Δ n b vars σ) ds vars σ) h
theorem Jm {a : E} {x : D} {xs : List D} (h1 : ah Δ n a vars σ = some (x, σ1)) (hr : res σ1 x = some (.lst xs)) (hl : xs.length ≤ az) : ah Δ (n + 1 + 1) (.bi .tuple [a]) vars σ = some (.tup xs, σ1) := by
 have h : bA Δ (n + 1) [a] vars σ = some ([x], σ1) := (aP (k := fun d => seq1 (bA Δ n [] vars) fun ds σ => some (d :: ds, σ)) h1).trans (by cases n <;> first | rfl | (cases h1))
 refine (aP (k := jb .tuple) h).trans ?_
 show ((res σ1 x).bind fun z => (jq σ1 []).map (z :: ·)).bind _ = _
 rw [hr]
 show (if xs.length ≤ az then some (D.tup xs) else none).map _ = _
 rw [if_pos hl]; rfl
theorem Jo {a b : E} {x y : D} (h1 : ah Δ (n + 1) a vars σ = some (x, σ1)) (h2 : ah Δ n b vars σ1 = some (y, σ2)) : ah Δ (n + 1 + 1 + 1) (.tup [a, b]) vars σ = some (.tup [x, y], σ2) := by
 have h : bA Δ (n + 1 + 1) [a, b] vars σ = some ([x, y], σ2) := (aP (k := fun d => seq1 (bA Δ (n + 1) [b] vars) fun ds σ => some (d :: ds, σ)) h1).trans ((aP (k := fun ds σ => some (x :: ds, σ)) ((aP (k := fun d => seq1 (bA Δ n [] vars) fun ds σ => some (d :: ds, σ)) h2).trans (by cases n <;> first | rfl | (cases h2)))).trans rfl)
 exact (aP (k := tupK) h).trans rfl
end
theorem set_set (σ : ae) (i : Nat) (a b : Option cN) : (σ.set i a).set i b = σ.set i b := List.set_set ..
noncomputable def xD : List S := kj.body.drop 5
theorem LV {Δ : Dl} {T : List Nat} {l : Nat} {b n nt : Int} {x8 : Option D} {σ : ae} {cs : List Int} (h0 : σ[0]? = some (some (.inst [(0, .str T)]))) (hl : σ[l]? = some (some (.lst (cs.map .int)))) (h1 : 1 ≤ l) (hc : cs.length ≤ az) :
  aJ Δ 195 xD (iv T l b n nt x8 none none none) σ = some (.next, iv T l b n nt x8 none none none, σ.set 0 (some (.inst [(0, .str T), (1, .int n), (2, .int nt), (3, .tup [.tup (cs.map .int), .int b]), (4, .bool (decide (((cs.map D.int).length : Int) ≤ 1)))]))) := by
 have aZ : 0 < σ.length := (List.getElem?_eq_some_iff.mp h0).1
 have j8 : ∀ m, (σ.set 0 m)[0]? = some m := fun m => List.getElem?_set_self aZ
 have AD : ∀ m, (σ.set 0 m)[l]? = some (some (.lst (cs.map .int))) := fun m => (List.getElem?_set_ne (Nat.ne_of_lt h1)).trans hl
 have hk : (cs.map D.int).length ≤ az := by rw [List.length_map]; exact hc
 refine (bu (sL (e := .var 6) (o := .var 0) rfl rfl h0 ⟨rfl, (by decide : 1 < 20)⟩)).trans ?_
 refine (bu (sL (as := [(0, .str T), (1, .int n)]) (e := .var 7) (o := .var 0) rfl rfl (j8 _) ⟨rfl, (by decide : 2 < 20)⟩)).trans ?_
 rw [set_set]
 refine (bu (sL (as := [(0, .str T), (1, .int n), (2, .int nt)]) (o := .var 0) (Jo (Jm (a := .var 4) rfl (jW (AD _)) hk) (b := .var 5) rfl) rfl (j8 _) ⟨rfl, (by decide : 3 < 20)⟩)).trans ?_
 rw [set_set]
 refine (bu (sL (as := [(0, .str T), (1, .int n), (2, .int nt), (3, .tup [.tup (cs.map .int), .int b])]) (o := .var 0) (ig (lN (a := .var 4) rfl (jW (AD _)) hk) (b := .lit (.int 1)) rfl rfl rfl (show b8 .LtE (.int ((cs.map D.int).length : Int)) (.int 1) = some _ from rfl)) rfl (j8 _) ⟨rfl, (by decide : 4 < 20)⟩)).trans ?_
 rw [set_set]; rfl
theorem MZ (k : Nat) : decide ((k : Int) ≤ 1) = decide (k ≤ 1) := decide_eq_decide.mpr (by lia)
theorem LZ {Δ : Dl} {T : List Nat} {r : Option (aI × af × ae)} (h : aJ Δ 196 (.for (.var 8) (.attr (.var 0) 0) my :: xD) (iv T 1 0 0 0 none none none none) [some (.inst [(0, .str T)]), some (.lst [])] = r) :
  aJ Δ 200 kj.body (cZ kj [.loc 0, .str T]) [some (.inst [])] = r := h
theorem LW {Δ : Dl} {T : List Nat} {r : Option (aI × af × ae)} {vars' : af} {σ' : ae} (ht : T.all (· < 128) = true) (hl : T.length ≤ az) (h : cC (mz Δ) (bL T) (iv T 1 0 0 0 none none none none) [some (.inst [(0, .str T)]), some (.lst [])] = some (.next, vars', σ')) (h2 : aJ Δ 195 xD vars' σ' = r) :
  aJ Δ 200 kj.body (cZ kj [.loc 0, .str T]) [some (.inst [])] = r := by
 refine LZ ((bu ((gK (ds := bL T) ?_).trans h)).trans h2)
 exact (aP (f := ah Δ 193 (.attr (.var 0) 0) (iv T 1 0 0 0 none none none none)) (k := jj) (x := .str T) rfl).trans (DX ht hl)
theorem Pb {Δ : Dl} {n : Nat} {f : Fn} {a : D} {v : af} {σ : ae} {as : List (Nat × D)} (hn : f.np = 2) (ha : a.pure = true) (h : aJ Δ n f.body (cZ f [.loc 0, a]) [some (.inst [])] = some (.next, v, σ)) (h0 : σ[0]? = some (some (.inst as))) (hp : D.bF as = true) : oJ Δ n f a = some (.inst as) := by
 unfold oJ
 rw [if_pos (by rw [hn, ha]; rfl), h]
 show (oh σ).bind _ = _
 have hk : look σ 0 = some (.inst as) := by unfold look; rw [h0]; rfl
 have hl : oh σ = some as := by unfold oh; rw [hk]
 rw [hl]
 show (if D.bF as = true then _ else none) = _
 rw [if_pos hp]
theorem LX {Δ : Dl} {runs : List Nat} {tr : Nat} {rest : List Nat} (hr : ∀ r ∈ runs, r ≤ 9999) (ht : (fc runs tr rest).all (· < 128) = true) (hl : (fc runs tr rest).length ≤ az) :
  oJ Δ 200 kj (.str (fc runs tr rest)) = some (c7 (fc runs tr rest) (runs.foldl bump []) tr ((jr runs + tr : Nat)) runs.length) := by
 obtain ⟨l', σ', lz, f1, f2, f3, f4, f5⟩ := Dj (Δ := Δ) (t := fc runs tr rest) (x9 := none) (aW := none) (aV := none) (ds := bL (List.replicate tr 32) ++ bL (120 :: rest)) runs [] 1 0 0 none [some (.inst [(0, .str (fc runs tr rest))]), some (.lst [])] rfl (Nat.le_refl 1) (Nat.zero_le _) hr
 obtain ⟨y8, g1⟩ := xF (Δ := Δ) (t := fc runs tr rest) (l := l') (nt := 0 + ((runs.length : Nat) : Int)) (x9 := none) (aW := none) (aV := none) (σ := σ') (ds := bL (120 :: rest)) tr 0 (0 + (jr runs : Nat)) lz
 have e0 : bL (fc runs tr rest) = bL (bZ runs) ++ (bL (List.replicate tr 32) ++ bL (120 :: rest)) := by
  show bL (bZ runs ++ (List.replicate tr 32 ++ 120 :: rest)) = _
  rw [n8, n8]
 generalize fc runs tr rest = T at *
 have e7 : cC (mz Δ) (bL T) (iv T 1 0 0 0 none none none none) [some (.inst [(0, .str T)]), some (.lst [])] = some (.next, iv T l' tr ((jr runs + tr : Nat)) (runs.length : Nat) (some (.str [120])) none none none, σ') := by
  rw [e0, f1, g1, Int.natCast_add, Int.zero_add, Int.zero_add, Int.zero_add]
  exact (eM (ds := bL rest) (xE (d := .str [120]) L2)).trans rfl
 have hc : (runs.foldl bump []).length ≤ az := Nat.le_trans f5 (by decide)
 have aZ : 0 < σ'.length := (List.getElem?_eq_some_iff.mp (show σ'[0]? = some _ from f4)).1
 refine (Pb rfl rfl (LW ht hl e7 (LV f4 f2 f3 hc)) (List.getElem?_set_self aZ) ?_).trans ?_
 ·show (true && (true && (true && (D.aL [.tup ((runs.foldl bump []).map .int), .int tr] && (true && true))))) = true
  rw [show D.aL [.tup ((runs.foldl bump []).map .int), .int tr] = (D.aL ((runs.foldl bump []).map .int) && (true && true)) from rfl, yV]; rfl
 ·unfold c7
  rw [List.length_map, MZ]
end Ev
end
section
namespace Ev
open PySem
noncomputable def intsFrom (a : Int) : Nat → List Int := @fun aa => match aa with
 | 0 => []
 | m + 1 => a :: intsFrom (a + 1) m
theorem Dq : ∀ (m : Nat) (a : Int), (intsFrom a m).length = m := @fun aa => @(match aa with
 | 0 => @fun ξ => rfl
 | m + 1 => @fun a => by simp [intsFrom, Dq m])
theorem iy : ∀ {m : Nat} {a i : Int}, i ∈ intsFrom a m ↔ a ≤ i ∧ i < a + m := @fun aa => @(match aa with
 | 0 => @fun a i => by simp [intsFrom]
 | m + 1 => @fun a i => by simp only [intsFrom, List.mem_cons, iy (m := m)]; lia)
theorem Dr : ∀ (m : Nat) (a : Int), (List.range m).map (fun (k : Nat) => a + (k : Int)) = intsFrom a m := @fun aa => @(match aa with
 | 0 => @fun ξ => rfl
 | m + 1 => @fun a => by
  rw [List.range_succ_eq_map, List.map_cons, List.map_map, intsFrom, ← Dr m (a + 1)]
  congr 1
  ·simp
  ·apply List.map_congr_left; intro k _; simp; lia)
theorem yZ (a b : Int) : fF a b = (intsFrom a (b - a).toNat).map .int := by
 rw [fF, ← Dr, List.map_map]; rfl
theorem xQ {Δ : Dl} {n : Nat} {e : E} {vars : af} {σ σ' : ae} {b : Int} (h : bA Δ n [e] vars σ = some ([.int b], σ')) (h1 : small b = true) (h2 : b.toNat ≤ az) : ef Δ (n + 1) (.range [e]) vars σ = some ((intsFrom 0 b.toNat).map .int, σ') :=
 (aP (k := ur) h).trans (by
  show ((if (small b && decide (b.toNat ≤ az)) = true then some ((0 : Int), b) else none).map _) = _
  rw [if_pos (by rw [h1, decide_eq_true h2]; rfl)]
  show some (fF 0 b, σ') = _
  rw [yZ, Int.sub_zero])
theorem tJ {Δ : Dl} {n : Nat} {e1 e2 : E} {vars : af} {σ σ' : ae} {a b : Int} (h : bA Δ n [e1, e2] vars σ = some ([.int a, .int b], σ')) (h0 : small a = true) (h1 : small b = true) (h2 : (b - a).toNat ≤ az) : ef Δ (n + 1) (.range [e1, e2]) vars σ = some ((intsFrom a (b - a).toNat).map .int, σ') :=
 (aP (k := ur) h).trans (by
  show ((if (small a && small b && decide ((b - a).toNat ≤ az)) = true then some (a, b) else none).map _) = _
  rw [if_pos (by rw [h0, h1, decide_eq_true h2]; rfl)]
  show some (fF a b, σ') = _
  rw [yZ])
noncomputable def fL (f : Nat → Int) (k : Nat) : List Int → Int := @fun aa => match aa with
 | [] => 0
 | c :: cs => f k * c + fL f (k + 1) cs
noncomputable def longest : List Nat → Nat := @fun aa => match aa with
 | [] => 0
 | r :: rs => max (r + 1) (longest rs)
theorem DW (f : Nat → Int) : ∀ (j : Nat) (cs : List Int) (k : Nat), (∀ i, k ≤ i → i < k + j → f i = 0) → fL f k cs = fL f (k + j) (cs.drop j) := @fun aa ak => @(match aa, ak with
 | 0, cs => @fun k ξ => rfl
 | j + 1, [] => @fun k ξ => rfl
 | j + 1, c :: cs => @fun k h => by
  have := DW f j cs (k + 1) (fun i h1 h2 => h i (by lia) (by lia))
  rw [fL, this, h k (Nat.le_refl _) (by lia), List.drop_succ_cons, show k + 1 + j = k + (j + 1) by lia]; lia)
theorem jX {n : Nat} (h : n < 2 ^ 62) : small (n : Int) = true := by simp [small]; lia
theorem Ny (a b : Int) : c9 .max [.int a, .int b] = some (.int (max a b)) := by
 show (match some (decide (b > a)) with | some true => some (D.int b) | some false => some (D.int a) | none => none) = _
 by_cases h : b > a
 ·rw [decide_eq_true h, Int.max_eq_right (Int.le_of_lt h)]
 ·rw [decide_eq_false h, Int.max_eq_left (Int.not_lt.mp h)]
theorem M7 {xs : List D} (h : xs.length ≤ az) : tO (.tup xs) = some (.int xs.length) := if_pos h
theorem BP {Δ : Dl} {n : Nat} {a : E} {xs : List D} {vars : af} {σ σ1 : ae} (h1 : ah Δ n a vars σ = some (.tup xs, σ1)) (hl : xs.length ≤ az) : ah Δ (n + 1 + 1) (.bi .len [a]) vars σ = some (.int xs.length, σ1) := by
 have h : bA Δ (n + 1) [a] vars σ = some ([.tup xs], σ1) := (aP (k := fun d => seq1 (bA Δ n [] vars) fun ds σ => some (d :: ds, σ)) h1).trans (by cases n <;> first | rfl | (cases h1))
 refine (aP (k := jb .len) h).trans ?_
 show (tO (.tup xs)).map _ = _
 rw [M7 hl]; rfl
theorem v5 {Δ : Dl} {n : Nat} {a b : E} {i j : Int} {vars : af} {σ σ1 σ2 : ae} (h1 : ah Δ (n + 1 + 1) a vars σ = some (.int i, σ1)) (h2 : ah Δ (n + 1) b vars σ1 = some (.int j, σ2)) : ah Δ (n + 1 + 1 + 1 + 1) (.bi .max [a, b]) vars σ = some (.int (max i j), σ2) := by
 refine (aP (k := jb .max) (aN h1 (aN h2 rfl))).trans ?_
 show (c9 .max [.int i, .int j]).map _ = _
 rw [Ny]; rfl
theorem jn {t : List Nat} {cs : List Int} {tr n nt : Int} : (c7 t cs tr n nt).pure = true := by
 show (true && (true && (true && (D.aL [.tup (cs.map .int), .int tr] && (true && true))))) = true
 rw [show D.aL [.tup (cs.map .int), .int tr] = (D.aL (cs.map .int) && (true && true)) from rfl, yV]; rfl
theorem Ng {Δ : Dl} {t : List Nat} {cs : List Int} {tr n nt : Int} (hc : cs.length ≤ 10000) : cM Δ 200 Cb [c7 t cs tr n nt] = some (.int (max ((cs.length : Int) - 1) tr)) := by
 have je : (cs.map D.int).length ≤ az := by rw [List.length_map]; exact Nat.le_trans hc (by decide)
 refine aE.run (aE.lF (x := .tup [.tup (cs.map .int), .int tr]) rfl rfl (aE.ret (x := .int (max ((cs.length : Int) - 1) tr)) (v5 ?_ rfl) rfl)) rfl (by show ((c7 t cs tr n nt).pure && true) = true; rw [jn]; rfl) rfl
 have h := aR (op := .Sub) (k := ((cs.map D.int).length : Int) - 1) (Δ := Δ) (BP (a := .var 1) (n := 192) (vars := [some (c7 t cs tr n nt), some (.tup (cs.map .int)), some (.int tr), none, none]) (σ := []) rfl je) (b := .lit (.int 1)) rfl rfl
 rw [List.length_map] at h
 exact h
noncomputable def LP : List S := [.asg [(.var 4)] (.bin .Add (.var 4) (.bin .Mult (.bin .FloorDiv (.var 5) (.var 1)) (.idx (.var 2) (.var 5))))]
noncomputable def xC (Δ : Dl) : D → af → ae → Option (aI × af × ae) := fun d vars σ => (cz (.var 5) d vars).bind fun vars => aJ Δ 196 LP vars σ
theorem pP (a b : Nat) : (a : Int).fdiv (b : Int) = ((a / b : Nat) : Int) := by
 rw [Int.fdiv_eq_ediv_of_nonneg _ (by lia)]; exact (Int.natCast_ediv a b).symm
theorem Cf (a b : Nat) : (a : Int).fmod (b : Int) = ((a % b : Nat) : Int) := by
 rw [Int.fmod_eq_emod_of_nonneg _ (by lia)]; exact (Int.natCast_emod a b).symm
theorem Di {Δ : Dl} {w : D} {ts : Nat} {cs : List Int} {tr x6 x7 : Option D} (h1 : 1 ≤ ts) (h2 : ts ≤ 20000) (hc : cs.length ≤ 10000) {σ : ae} : ∀ (m a : Nat) (il : Int) (x5 : Option D), a + m = cs.length → ∃ lu, cC (xC Δ) ((intsFrom a m).map .int) [some w, some (.int ts), some (.tup (cs.map .int)), tr, some (.int il), x5, x6, x7] σ = some (.next, [some w, some (.int ts), some (.tup (cs.map .int)), tr, some (.int (il + fL (fun i => ((i / ts : Nat) : Int)) a (cs.drop a))), lu, x6, x7], σ) := @fun aa => @(match aa with
 | 0 => @fun a il x5 h => ⟨x5, by
   have : cs.drop a = [] := List.drop_eq_nil_of_le (by lia)
   simp [intsFrom, cC, this, fL]⟩
 | m + 1 => @fun a il x5 h => by
  obtain ⟨c, wL⟩ : ∃ c, cs[a]? = some c := ⟨cs[a]'(by lia), List.getElem?_eq_getElem (by lia)⟩
  have hd : cs.drop a = c :: cs.drop (a + 1) := by
   rw [List.drop_eq_getElem_cons (show a < cs.length by lia)]
   congr 1
   rw [List.getElem?_eq_getElem (show a < cs.length by lia)] at wL
   exact Option.some.inj wL
  obtain ⟨lu, e⟩ := Di (Δ := Δ) (w := w) (tr := tr) (x6 := x6) (x7 := x7) h1 h2 hc (σ := σ) m (a + 1) (il + ((a / ts : Nat) : Int) * c) (some (.int a)) (by lia)
  refine ⟨lu, ?_⟩
  have hg : (cs.map D.int)[(a : Int).toNat]? = some (.int c) := by rw [List.getElem?_map, Int.toNat_natCast, wL]; rfl
  have e2 : small (((a / ts : Nat) : Int)) = true := jX (by have := Nat.div_le_self a ts; lia)
  have e3 : small (ts : Int) = true := jX (by lia)
  have e4 : gb .FloorDiv (a : Int) (ts : Int) = some (.int ((a / ts : Nat) : Int)) := by
   show (if ((ts : Int) == 0 || !small (ts : Int)) = true then none else some (D.int ((a : Int).fdiv ts))) = _
   rw [if_neg (by rw [e3, beq_eq_false_iff_ne.mpr (by lia)]; decide), pP]
  have e6 : gb .Mult ((a / ts : Nat) : Int) c = some (.int (((a / ts : Nat) : Int) * c)) := if_pos (by rw [e2]; rfl)
  have e5 : xC Δ (.int a) [some w, some (.int ts), some (.tup (cs.map .int)), tr, some (.int il), x5, x6, x7] σ = some (.next, [some w, some (.int ts), some (.tup (cs.map .int)), tr, some (.int (il + ((a / ts : Nat) : Int) * c)), some (.int a), x6, x7], σ) :=
   cV (n := 194) (bR (i := 4) (aR (a := .var 4) rfl (aR (aR (a := .var 5) (b := .var 1) rfl rfl e4) (bY (a := .var 2) (b := .var 5) rfl rfl rfl rfl (Int.natCast_nonneg a) (jX (by lia)) hg) e6) rfl) rfl)
  refine (eM (ds := (intsFrom ((a : Int) + 1) m).map .int) e5).trans ?_
  rw [show (a : Int) + 1 = ((a + 1 : Nat) : Int) from rfl, hd, fL, ← Int.add_assoc]
  exact e)
noncomputable abbrev nv (w : D) (ts : Nat) (cs : List Int) (tr il : Int) (x5 : Option D) : af := [some w, some (.int ts), some (.tup (cs.map .int)), some (.int tr), some (.int il), x5, none, none]
theorem LQ {Δ : Dl} {w : D} {cs : List Int} {tr : Int} {ts : Nat} (h1 : 1 ≤ ts) (h2 : ts ≤ 20000) (hc : cs.length ≤ 10000) : ∃ lu, cC (xC Δ) ((intsFrom ts ((cs.length : Int) - ts).toNat).map .int) (nv w ts cs tr 0 none) [] = some (.next, nv w ts cs tr (fL (fun i => ((i / ts : Nat) : Int)) 0 cs) lu, []) := by
 have h0 : fL (fun i => ((i / ts : Nat) : Int)) 0 cs = fL (fun i => ((i / ts : Nat) : Int)) ts (cs.drop ts) := by
  have := DW (fun i => ((i / ts : Nat) : Int)) ts cs 0 (fun i ξ h => by rw [Nat.zero_add] at h; rw [Nat.div_eq_of_lt h]; rfl)
  rw [Nat.zero_add] at this; exact this
 rcases Nat.le_total ts cs.length with h | h
 ·obtain ⟨lu, e⟩ := Di (Δ := Δ) (w := w) (tr := some (.int tr)) (x6 := none) (x7 := none) h1 h2 hc (σ := []) ((cs.length : Int) - ts).toNat ts 0 none (by lia)
  rw [Int.zero_add] at e
  exact ⟨lu, by rw [h0]; exact e⟩
 ·refine ⟨none, ?_⟩
  rw [show ((cs.length : Int) - ts).toNat = 0 by lia, h0, List.drop_eq_nil_of_le h]; rfl
theorem LR {Δ : Dl} {t : List Nat} {cs : List Int} {tr n nt : Int} {ts : Nat} (h1 : 1 ≤ ts) (h2 : ts ≤ 20000) (hc : cs.length ≤ 10000) : cM Δ 200 BY [c7 t cs tr n nt, .int ts] = some (.int (tr + ts * (fL (fun i => ((i / ts : Nat) : Int)) 0 cs + nt))) := by
 have hk : (cs.map D.int).length ≤ az := by rw [List.length_map]; exact Nat.le_trans hc (by decide)
 have e3 : small (ts : Int) = true := jX (by lia)
 obtain ⟨lu, hf⟩ := LQ (Δ := Δ) (w := c7 t cs tr n nt) (tr := tr) h1 h2 hc
 have hl := BP (a := .var 2) (n := 191) (Δ := Δ) (vars := nv (c7 t cs tr n nt) ts cs tr 0 none) (σ := []) rfl hk
 rw [List.length_map] at hl
 have hi := tJ (aN (a := .var 1) (es := [.bi .len [.var 2]]) rfl (aN (n := 193) hl rfl)) e3 (jX (Nat.lt_of_le_of_lt hc (by decide))) (by unfold az; lia)
 have e6 : gb .Mult (ts : Int) (fL (fun i => ((i / ts : Nat) : Int)) 0 cs + nt) = some (.int (ts * (fL (fun i => ((i / ts : Nat) : Int)) 0 cs + nt))) := if_pos (by rw [e3]; rfl)
 refine aE.run (aE.lF (x := .tup [.tup (cs.map .int), .int tr]) rfl rfl (aE.asg (x := .int 0) rfl rfl (aE.step ((gK hi).trans hf) (aE.ret (aR (a := .var 3) rfl (aR (a := .var 1) rfl (aR (a := .var 4) (b := .attr (.var 0) 2) (j := nt) rfl rfl rfl) e6) rfl) rfl)))) rfl (by show ((c7 t cs tr n nt).pure && (true && true)) = true; rw [jn]; rfl) rfl
end Ev
end
section
namespace Ev
open PySem
theorem gC {α : Type} (h : α → D) (hp : ∀ x, (h x).pure = true) : ∀ l : List α, D.aL (l.map h) = true := @fun aa => match aa with
 | [] => rfl
 | x :: l => by simp [D.aL, hp x, gC h hp l]
noncomputable def iZ (a b c : Int) : D := .tup [.int a, .int b, .int c]
theorem iz {Δ : Dl} {n f : Nat} {o : E} {es : List E} {vars : af} {σ σ' σ2 : ae} {as : List (Nat × D)} {ds : List D} {d : D} (h : ah Δ n o vars σ = some (.inst as, σ')) (h2 : bA Δ n es vars σ' = some (ds, σ2)) (hp : D.aL (.inst as :: ds) = true) (hf : Δ.fns f (.inst as :: ds) = some d) : ah Δ (n + 1) (.bW f o es) vars σ = some (d, σ2) :=
 (aP (k := fun x => seq1 (bA Δ n es vars) (yf Δ f x)) h).trans ((aP h2).trans (by
  show lI Δ f (.inst as :: ds) σ2 = _
  unfold lI
  rw [if_pos hp, hf]; rfl))
theorem vW {Δ : Dl} {n l : Nat} {o a : E} {y : D} {xs : List D} {vars : af} {σ σ1 σ2 : ae} (h1 : ah Δ n o vars σ = some (.loc l, σ1)) (hi : n7 σ1 (.loc l) = true) (h2 : ah Δ n a vars σ1 = some (y, σ2)) (hl : σ2[l]? = some (some (.lst xs))) (hz : xs.length < az) : ah Δ (n + 1) (.append o a) vars σ = some (.none, σ2.set l (some (.lst (xs ++ [y])))) :=
 (aP (k := fun x σ => if n7 σ x then seq1 (ah Δ n a vars) (vc x) σ else none) h1).trans (by
  rw [if_pos hi, aP h2]
  show (iU σ2 (.loc l)).bind _ = _
  rw [tX hl]
  show (if xs.length < az then _ else none) = _
  rw [if_pos hz])
theorem lP {Δ : Dl} {n : Nat} {e : E} {vars : af} {σ σ1 : ae} (h : ah Δ n e vars σ = some (.none, σ1)) : bK Δ (n + 1) (.expr e) vars σ = some (.next, vars, σ1) := (aP (k := fun d σ => if tG d then some (aI.next, vars, σ) else none) h).trans rfl
noncomputable abbrev wv (as bs : List (Nat × D)) (x2 x4 x5 x6 : Option D) : af := [some (.inst as), some (.inst bs), x2, some (.loc 0), x4, x5, x6]
end Ev
end
section
namespace Ev
open PySem
theorem Cp {a : D} (pa : a.pure = true) (σ : ae) : cS σ a = some (a, σ) := by cases a <;> first | rfl | exact ai pa
theorem Nj {σ : ae} {ys : List D} (h : σ[0]? = some (some (.lst ys))) : oq σ = some ys := by
 have hk : look σ 0 = some (.lst ys) := by unfold look; rw [h]; rfl
 unfold oq; rw [hk]
theorem BU {Δ : Dl} {n : Nat} {vars : af} {σ : ae} {c : E} {b : List S} {r : Option (aI × af × ae)} (h : eV (fun vars σ => aX Δ n c vars σ) (fun vars σ => aJ Δ n b vars σ) zY vars σ = r) : bK Δ (n + 1) (.wh c b) vars σ = r := h
theorem Ju {Δ : Dl} {n : Nat} {vars vars' : af} {σ σ' : ae} {st : S} {ss : List S} (h : bK Δ n st vars σ = some (.cont, vars', σ')) : aJ Δ (n + 1) (st :: ss) vars σ = some (.cont, vars', σ') := by
 show (match bK Δ n st vars σ with | some (.next, vars, σ) => aJ Δ n ss vars σ | r => r) = _
 rw [h]
theorem qE {Δ : Dl} {n : Nat} {f : Fn} {xs ys args : List D} {d : D} {σ : ae} {r : Option (aI × af × ae)} (hn : args.length + 1 = f.np) (pa : D.aL args = true) (px : D.aL xs = true) (h : aJ Δ n f.body (cZ f (.loc 0 :: args)) [some (.lst xs)] = r) (he : vM r = some (d, σ)) (hl : σ[0]? = some (some (.lst ys))) (pd : d.pure = true) (py : D.aL ys = true) : eR Δ n f xs args = some (d, ys) := by
 unfold eR
 rw [if_pos (by rw [hn, beq_self_eq_true, pa, px]; rfl), h, he]
 show (oq σ).bind _ = _
 rw [Nj hl]
 show (if (d.pure && D.aL ys) = true then _ else none) = _
 rw [if_pos (by rw [pd, py]; rfl)]
theorem Jg {Δ : Dl} {n f l : Nat} {o : E} {es : List E} {vars : af} {σ σ' σ2 : ae} {xs ys ds : List D} {d : D} (h : ah Δ n o vars σ = some (.loc l, σ')) (h2 : bA Δ n es vars σ' = some (ds, σ2)) (hl : σ2[l]? = some (some (.lst xs))) (pd : D.aL ds = true) (px : D.aL xs = true) (hf : Δ.muts f xs ds = some (d, ys)) : ah Δ (n + 1) (.eN f o es) vars σ = some (d, σ2.set l (some (.lst ys))) :=
 (aP (k := fun x => seq1 (bA Δ n es vars) (yd Δ f x)) h).trans ((aP h2).trans (by
  show (iU σ2 (.loc l)).bind _ = _
  rw [tX hl]
  show (if (D.aL ds && D.aL xs) = true then (Δ.muts f xs ds).bind _ else none) = _
  rw [if_pos (by rw [pd, px]; rfl), hf]; rfl))
theorem pJ {Δ : Dl} {n f l : Nat} {o : E} {es : List E} {vars : af} {σ σ' σ2 bX : ae} {xs ys ds : List D} {d : D} (h : ah Δ n o vars σ = some (.loc l, σ')) (h2 : bA Δ n es vars σ' = some (ds, σ2)) (hl : σ2[l]? = some (some (.lst xs))) (pd : D.aL ds = true) (px : D.aL xs = true) (hf : Δ.muts f xs ds = some (d, ys)) (hs : σ2.set l (some (.lst ys)) = bX) : ah Δ (n + 1) (.eN f o es) vars σ = some (d, bX) := hs ▸ Jg h h2 hl pd px hf
theorem pM {Δ : Dl} {n : Nat} {vars : af} {σ σ1 σ2 bf bX : ae} {e o i : E} {k : Int} {l : Nat} {d : D} {xs : List D} (h1 : ah Δ n e vars σ = some (d, σ1)) (h2 : ah Δ n o vars σ1 = some (.loc l, σ2)) (h3 : ah Δ n i vars σ2 = some (.int k, bf)) (hl : bf[l]? = some (some (.lst xs))) (h0 : 0 ≤ k) (hk : small k = true) (hg : k.toNat < xs.length) (hs : bf.set l (some (.lst (xs.set k.toNat d))) = bX) :
  bK Δ (n + 1) (.dJ o i e) vars σ = some (.next, vars, bX) := hs ▸ BS h1 h2 h3 hl h0 hk hg
theorem A9 {x a : D} {t : Bool} (h : eu x a = some t) (hd : x.dep ≤ 50) : b8 .Lt x a = some t := (if_pos hd).trans h
theorem uo {a b : D} (pa : a.pure = true) (pb : b.pure = true) : D.aL [a, b] = true := by show (a.pure && (b.pure && true)) = true; rw [pa, pb]; rfl
theorem um {a : D} (pa : a.pure = true) : D.aL [a] = true := by show (a.pure && true) = true; rw [pa]; rfl
section
variable {Δ qW : Dl} {a b c x : D} {xs zs : List D} {t : Bool}
theorem OL (h2 : Δ.muts 2 (xs ++ [x]) [.int 0, .int (((xs ++ [x]).length : Int) - 1)] = some (.none, zs)) (hl : xs.length ≤ 1000) (yW : D.aL xs = true) (px : x.pure = true) (pz : D.aL zs = true) (pc : D.aL (xs ++ [x]) = true) : eR Δ 200 v9 xs [x] = some (.none, zs) := by
 have jg : (xs ++ [x]).length ≤ az := by rw [List.length_append]; exact Nat.le_trans (Nat.succ_le_succ hl) (by decide)
 refine qE (r := some (.next, [some (.loc 0), some x, none, none], [some (.lst zs)])) rfl (um px) yW ?_ rfl rfl rfl pz
 refine (bu (lP (vW (l := 0) (o := .var 0) (a := .var 1) rfl rfl rfl rfl (Nat.lt_of_le_of_lt hl (by decide))))).trans (cV (lP (pJ (l := 0) (o := .var 0) rfl (ds := [.int 0, .int (((xs ++ [x]).length : Int) - 1)]) (aN (a := .lit (.int 0)) rfl (aN (aR (lN (a := .var 0) rfl (jW rfl) jg) (b := .lit (.int 1)) rfl rfl) rfl)) rfl rfl pc h2 rfl)))
theorem OC (pa : a.pure = true) : eR Δ 200 jd [a] [] = some (a, []) := by
 refine qE (r := some (.ret a, [some (.loc 0), some a, none, none], [some (.lst [])])) rfl rfl (um pa) ?_ rfl rfl pa rfl
 have e : aJ Δ 200 jd.body (cZ jd [.loc 0]) [some (.lst [a])] = aJ Δ 198 [.ret (.var 1)] [some (.loc 0), some a, none, none] [some (.lst [])] := rfl
 exact e.trans (gm (pL (e := .var 1) rfl (Cp pa _)))
theorem OD {r0 : List D} (he : aJ Δ 200 jd.body (cZ jd [.loc 0]) [some (.lst xs)] = aJ Δ 198 [.ite (.var 0) [.asg [(.var 2)] (.idx (.var 0) (.lit (.int 0))), .dJ (.var 0) (.lit (.int 0)) (.var 1), .expr (.eN 3 (.var 0) [(.lit (.int 0))]), .ret (.var 2)] [], .ret (.var 1)] [some (.loc 0), some x, none, none] [some (.lst (a :: r0))]) (hl : (a :: r0).length ≤ az) (h3 : Δ.muts 3 (x :: r0) [.int 0] = some (.none, zs)) (yW : D.aL xs = true) (pr : D.aL (x :: r0) = true) (pa : a.pure = true) (pz : D.aL zs = true) : eR Δ 200 jd xs [] = some (a, zs) := by
 refine qE (r := some (.ret a, [some (.loc 0), some x, some a, none], [some (.lst zs)])) rfl rfl yW ?_ rfl rfl pa pz
 have ht : aX Δ 196 (.var 0) [some (.loc 0), some x, none, none] [some (.lst (a :: r0))] = some (true, [some (.lst (a :: r0))]) := by
  refine (aP (f := ah Δ 195 (.var 0) [some (.loc 0), some x, none, none]) (k := fun x σ => (g8 x σ).map fun t => (t, σ)) rfl).trans ?_
  show ((if (a :: r0).length ≤ az then some (!(a :: r0).isEmpty) else none).map _) = _
  rw [if_pos hl]; rfl
 refine he.trans (gm (gO ht ?_))
 refine (bu (vars' := [some (.loc 0), some x, some a, none]) (σ' := [some (.lst (a :: r0))]) rfl).trans ((bu (vars' := [some (.loc 0), some x, some a, none]) (σ' := [some (.lst (x :: r0))]) (pM (xs := a :: r0) (e := .var 1) (o := .var 0) (i := .lit (.int 0)) (k := 0) rfl rfl rfl rfl (Int.le_refl 0) rfl (Nat.succ_pos r0.length) rfl)).trans ((bu (lP (pJ (l := 0) (o := .var 0) (ds := [.int 0]) rfl rfl rfl rfl pr h3 rfl))).trans (gm (pL (e := .var 2) rfl (Cp pa _)))))
end
end Ev
end
section
namespace Ev
open PySem
noncomputable def dR (a b : UInt64) : Option Bool := if Float64.isNaN a || Float64.isNaN b then none else some (Float64.cmp a b == some Ordering.eq)
noncomputable def nM (a b : UInt64) : Option Bool := if Float64.isNaN a || Float64.isNaN b then none else some (Float64.cmp a b == some Ordering.lt)
noncomputable def ik (a b : UInt64) : Bool := Float64.cmp a b == some Ordering.gt
noncomputable def sel (t : Bool) (a b : UInt64) : UInt64 := if t then a else b
noncomputable def pN (a b : UInt64) : UInt64 := sel (ik b a) b a
noncomputable def ir (r g b : UInt64) : UInt64 := pN (pN r g) b
noncomputable def sN (a b : UInt64) : Option UInt64 := (nM b a).map fun t => sel t b a
noncomputable def sM (r g b : UInt64) : Option UInt64 := (sN r g).bind fun m => sN m b
theorem qA {gt : D → D → Option Bool} {b x : UInt64} {xs : List D} {t : Bool} (h : gt (.flt x) (.flt b) = some t) : cL gt (.flt b) (.flt x :: xs) = cL gt (.flt (sel t x b)) xs := by
 show (match gt (.flt x) (.flt b) with | some true => cL gt (.flt x) xs | some false => cL gt (.flt b) xs | none => none) = _
 rw [h]
 cases t <;> rfl
theorem Ey (r g b : UInt64) : c9 .max [.flt r, .flt g, .flt b] = some (.flt (ir r g b)) :=
 (qA (t := ik g r) rfl).trans (qA (xs := []) (t := ik b (pN r g)) rfl)
theorem EC {r g b m : UInt64} (h : sM r g b = some m) : c9 .min [.flt r, .flt g, .flt b] = some (.flt m) :=
 aO h fun m1 h1 h2 => bT h1 fun t e1 q1 => bT h2 fun u e2 q2 => by
  subst q1 q2
  exact (qA (gt := cQ .Lt) (t := t) e1).trans (qA (gt := cQ .Lt) (xs := []) (t := u) e2)
noncomputable def l8 (r g b mx mn : UInt64) (br bg : Bool) : UInt64 :=
 sel br (Float64.sub (Float64.div (Float64.sub mx b) (Float64.sub mx mn)) (Float64.div (Float64.sub mx g) (Float64.sub mx mn)))
  (sel bg (Float64.sub (Float64.add 4611686018427387904 (Float64.div (Float64.sub mx r) (Float64.sub mx mn))) (Float64.div (Float64.sub mx b) (Float64.sub mx mn)))
   (Float64.sub (Float64.add 4616189618054758400 (Float64.div (Float64.sub mx g) (Float64.sub mx mn))) (Float64.div (Float64.sub mx r) (Float64.sub mx mn))))
noncomputable def nW (x : UInt64) : UInt64 := (Float64.divmod (Float64.div x 4618441417868443648) 4607182418800017408).2
section
variable {Δ : Dl} {n : Nat} {vars : af} {σ σ1 σ2 : ae}
theorem cR {op : Operator} {a b : E} {x y d : D} (aH : Δ.aH = true) (h1 : ah Δ n a vars σ = some (x, σ1)) (h2 : ah Δ n b vars σ1 = some (y, σ2)) (hx : res σ2 x = some x) (hy : res σ2 y = some y) (ha : nu op x y = none) (h : dH op x y = some d) : ah Δ (n + 1) (.bin op a b) vars σ = some (d, σ2) := by
 rw [sI h1 h2]
 unfold nB
 rw [hx]
 show ((res σ2 y).bind _) = _
 rw [hy]
 show jB Δ op x y σ2 = _
 unfold jB
 rw [ha]
 show (dH op x y).bind _ = _
 rw [h]
 show iQ Δ d σ2 = _
 unfold iQ
 rw [aH, Bool.not_true, Bool.and_false]; rfl
theorem gf {d : D} (aH : Δ.aH = true) : ah Δ (n + 1) (.lit d) vars σ = some (d, σ) := by
 show iQ Δ d σ = _
 unfold iQ
 rw [aH, Bool.not_true, Bool.and_false]; rfl
theorem AM {b : Bi} {ds ds' : List D} {d : D} (hr : jq σ ds = some ds') (hb : c9 b ds' = some d) : jb b ds σ = some (d, σ) := by
 unfold jb
 rw [hr]
 show (c9 b ds').map _ = _
 rw [hb]; rfl
theorem dK {b : Bi} {es : List E} {ds ds' : List D} {d : D} (h : bA Δ n es vars σ = some (ds, σ1)) (hr : jq σ1 ds = some ds') (hb : c9 b ds' = some d) (_ : 0 = 0) (hs : (b == .sorted) = false) : ah Δ (n + 1) (.bi b es) vars σ = some (d, σ1) := by
 show (if (b == Bi.sorted && !Δ.di) = true then none else seq1 (bA Δ n es vars) (jb b) σ) = _
 rw [hs]
 exact (aP h).trans (AM hr hb)
end
theorem pF {p q : UInt64} (z : Float64.isZero q = false) : dH .Div (.flt p) (.flt q) = some (.flt (Float64.div p q)) := if_neg (by rw [z]; decide)
theorem mod_ff {p q : UInt64} (z : Float64.isZero q = false) : dH .Mod (.flt p) (.flt q) = some (.flt (Float64.divmod p q).2) := if_neg (by rw [z]; decide)
theorem z6 : Float64.isZero 4618441417868443648 = false := by decide +kernel
theorem z1 : Float64.isZero 4607182418800017408 = false := by decide +kernel
theorem O1 {Δ : Dl} (aH : Δ.aH = true) {r g b mx mn : UInt64} {br bg : Bool} (wX : c9 .max [.flt r, .flt g, .flt b] = some (.flt mx)) (wY : c9 .min [.flt r, .flt g, .flt b] = some (.flt mn)) (h2 : dR mn mx = some false) (zm : Float64.isZero mx = false) (zd : Float64.isZero (Float64.sub mx mn) = false) (h3 : dR r mx = some br) (h4 : dR g mx = some bg) :
  cM Δ 200 sS [.flt r, .flt g, .flt b] = some (.tup [.flt (nW (l8 r g b mx mn br bg)), .flt (Float64.div (Float64.sub mx mn) mx), .flt mx]) := by
 refine aE.run (aE.asg (x := .flt mx) (dK (ds := [.flt r, .flt g, .flt b]) rfl rfl wX rfl rfl) rfl
  (aE.asg (x := .flt mn) (dK (ds := [.flt r, .flt g, .flt b]) rfl rfl wY rfl rfl) rfl
  (aE.asg (cR (a := .var 3) (b := .var 4) aH rfl rfl rfl rfl rfl rfl) rfl
  (aE.asg (e := .var 3) rfl rfl
  (aE.skip (bU (a := .var 4) (b := .var 3) rfl rfl rfl rfl (show b8 .Eq (.flt mn) (.flt mx) = some false from h2))
  (aE.asg (cR (a := .var 5) (b := .var 3) aH rfl rfl rfl rfl rfl (pF zm)) rfl
  (aE.asg (cR (b := .var 5) aH (cR (a := .var 3) (b := .var 0) aH rfl rfl rfl rfl rfl rfl) rfl rfl rfl rfl (pF zd)) rfl
  (aE.asg (cR (b := .var 5) aH (cR (a := .var 3) (b := .var 1) aH rfl rfl rfl rfl rfl rfl) rfl rfl rfl rfl (pF zd)) rfl
  (aE.asg (cR (b := .var 5) aH (cR (a := .var 3) (b := .var 2) aH rfl rfl rfl rfl rfl rfl) rfl rfl rfl rfl (pF zd)) rfl
  (aE.step (σ' := []) (vars' := [some (.flt r), some (.flt g), some (.flt b), some (.flt mx), some (.flt mn), some (.flt (Float64.sub mx mn)), some (.flt mx), some (.flt (Float64.div (Float64.sub mx mn) mx)), some (.flt (Float64.div (Float64.sub mx r) (Float64.sub mx mn))), some (.flt (Float64.div (Float64.sub mx g) (Float64.sub mx mn))), some (.flt (Float64.div (Float64.sub mx b) (Float64.sub mx mn))), some (.flt (l8 r g b mx mn br bg)), none, none]) ?_
  (aE.asg (cR aH (cR (a := .var 11) (x := .flt (l8 r g b mx mn br bg)) aH rfl (gf (d := .flt 4618441417868443648) aH) rfl rfl rfl (pF z6)) (gf (d := .flt 4607182418800017408) aH) rfl rfl rfl (mod_ff z1)) rfl
  (aE.ret (x := .tup [.flt (nW (l8 r g b mx mn br bg)), .flt (Float64.div (Float64.sub mx mn) mx), .flt mx]) rfl rfl)))))))))))) rfl rfl rfl
 cases br with
 | true => exact gO (bU (a := .var 0) (b := .var 3) rfl rfl rfl rfl (show b8 .Eq (.flt r) (.flt mx) = some true from h3)) (cV (bR (cR (a := .var 10) (b := .var 9) aH rfl rfl rfl rfl rfl rfl) rfl))
 | false =>
  refine gM (bU (a := .var 0) (b := .var 3) rfl rfl rfl rfl (show b8 .Eq (.flt r) (.flt mx) = some false from h3)) (cV ?_)
  cases bg with
  | true => exact gO (bU (a := .var 1) (b := .var 3) rfl rfl rfl rfl (show b8 .Eq (.flt g) (.flt mx) = some true from h4)) (cV (bR (cR (b := .var 10) aH (cR (b := .var 8) aH (gf (d := .flt 4611686018427387904) aH) rfl rfl rfl rfl rfl) rfl rfl rfl rfl rfl) rfl))
  | false => exact gM (bU (a := .var 1) (b := .var 3) rfl rfl rfl rfl (show b8 .Eq (.flt g) (.flt mx) = some false from h4)) (cV (bR (cR (b := .var 8) aH (cR (b := .var 9) aH (gf (d := .flt 4616189618054758400) aH) rfl rfl rfl rfl rfl) rfl rfl rfl rfl rfl) rfl))
end Ev
end
section
namespace Ev
open PySem
theorem Ds : ∀ l : List Int, intsOf (l.map .int) = some l := @fun aa => match aa with
 | [] => rfl
 | i :: l => by show (intsOf (l.map .int)).map (i :: ·) = _; rw [Ds l]; rfl
theorem Qh {xs : List D} {l : List Int} (h : xs = l.map .int) : c9 .sum [.lst xs] = some (.int (sumInts l)) := by
 show (intsOf xs).map (fun is => D.int (sumInts is)) = _
 rw [h, Ds]; rfl
theorem BX (zs : List Int) : ∀ l : List Nat, l.filterMap ((zs.map D.int)[·]?) = (l.filterMap (zs[·]?)).map .int := @fun aa => match aa with
 | [] => rfl
 | k :: l => by
  have ih := BX zs l
  have h : (zs.map D.int)[k]? = (zs[k]?).map .int := List.getElem?_map ..
  cases q : zs[k]? with
  | none => rw [q] at h; rw [List.filterMap_cons_none h, List.filterMap_cons_none q]; exact ih
  | some v => rw [q] at h; rw [List.filterMap_cons_some h, List.filterMap_cons_some q, List.map_cons, ih]
theorem PT {zs : List Int} {lo hi st : Option Int} (h : zs.length ≤ az) (h0 : st ≠ some 0) : ∃ ys : List Int, mR (.lst (zs.map .int)) lo hi st = some (.lst (ys.map .int)) := by
 refine ⟨((sliceRange (sliceBounds lo hi st (zs.map D.int).length).1 (sliceBounds lo hi st (zs.map D.int).length).2.1 (sliceBounds lo hi st (zs.map D.int).length).2.2).filterMap (zs[·]?)), ?_⟩
 rw [← BX]
 exact if_pos ⟨by rw [List.length_map]; exact h, h0⟩
theorem FG (c : Nat) : ∀ n : Nat, (List.replicate n [c]).flatten = List.replicate n c := @fun aa => match aa with
 | 0 => rfl
 | n + 1 => congrArg (c :: ·) (FG c n)
theorem za : ∀ r : Nat, (List.replicate r 32).all (· < 128) = true := @fun aa => match aa with
 | 0 => rfl
 | r + 1 => za r
theorem FT : ∀ (runs : List Nat), (bZ runs).all (· < 128) = true := @fun aa => match aa with
 | [] => rfl
 | r :: runs => by
  show (List.replicate r 32 ++ [9] ++ bZ runs).all _ = true
  rw [List.all_append, List.all_append, za, FT runs]; rfl
theorem FQ {r : Nat} (h : r ≤ 9999) : dH .Mult (.str [32]) (.int r) = some (.str (List.replicate r 32)) := by
 have h1 : small (r : Int) = true := gW (Nat.le_trans h (by decide))
 have h2 : 1 * r ≤ az := by rw [Nat.one_mul]; exact Nat.le_trans h (by decide)
 refine (if_pos (show (small (r : Int) && decide (1 * r ≤ az)) = true by rw [h1, decide_eq_true h2]; rfl)).trans ?_
 rw [Int.toNat_natCast, FG]
section
variable {Δ : Dl} {n : Nat} {vars : af} {σ σ1 σ2 : ae}
theorem Jh {a : E} {x d : D} (h1 : ah Δ n a vars σ = some (x, σ1)) (hp : x.pure = true) (hn : Δ.new x = some d) : ah Δ (n + 1) (.new a) vars σ = some (d, σ1) :=
 (aP (k := t8 Δ) h1).trans (by unfold t8; rw [if_pos hp, hn]; rfl)
theorem vF {α : Type} {t : T} {dj : af → ae → Option (Bool × ae)} {el : af → ae → Option (D × ae)} (enc out : α → D) (p : α → Bool) (I : af → Prop) : ∀ {l : List α} {vs : af}, (∀ a ∈ l, ∀ vs, I vs → ∃ bj, cz t (enc a) vs = some bj ∧ I bj ∧ dj bj σ = some (p a, σ) ∧ (p a = true → el bj σ = some (out a, σ))) → I vs → d8 (fq t dj el) (l.map enc) vs σ = some ((l.filter p).map out, σ) := @fun aa => @(match aa with
 | [] => @fun ξ ξ ξ => rfl
 | a :: l => @fun vs hf i => by
  obtain ⟨bj, e1, i', e2, e3⟩ := hf a List.mem_cons_self vs i
  have ih := vF enc out p I (l := l) (vs := bj) (fun b hb => hf b (List.mem_cons_of_mem _ hb)) i'
  show ((cz t (enc a) vs).bind _).bind _ = _
  rw [e1]
  show ((dj bj σ).bind _).bind _ = _
  rw [e2, List.filter_cons]
  cases q : p a with
  | false => show (d8 (fq t dj el) (l.map enc) bj σ).map _ = _; rw [ih]; rfl
  | true =>
   show ((el bj σ).map _).bind _ = _
   rw [e3 q]
   show (d8 (fq t dj el) (l.map enc) bj σ).map _ = _
   rw [ih]; rfl)
theorem Qv {c : E} {vs : af} {b : Bool} (h : aX Δ (n + 1) c vs σ = some (b, σ)) : iD Δ (n + 1 + 1) [c] vs σ = some (b, σ) :=
 (aP (k := fun (t : Bool) (σ : ae) => if t then iD Δ (n + 1) [] vs σ else some (false, σ)) h).trans (by cases b <;> rfl)
theorem vY {α : Type} (enc out : α → D) (p : α → Bool) (I : af → Prop) {l : List α} {aq : List (Option Nat)} {elt it c : E} {t : T} (hi : ef Δ (n + 1 + 1) it vars σ = some (l.map enc, σ1)) (hc : dD vars aq = true) (hl : l.length ≤ az)
  (hf : ∀ a ∈ l, ∀ vs, I vs → ∃ bj, cz t (enc a) vs = some bj ∧ I bj ∧ aX Δ (n + 1) c bj σ1 = some (p a, σ1) ∧ (p a = true → ah Δ (n + 1 + 1) elt bj σ1 = some (out a, σ1))) (i : I (cP vars aq)) : ah Δ (n + 1 + 1 + 1) (.comp aq elt t it [c]) vars σ = some (.lst ((l.filter p).map out), σ1) :=
 vX hi hc (by rw [List.length_map]; exact hl) (vF enc out p I (fun a ha vs i => let ⟨bj, e1, i', e2, e3⟩ := hf a ha vs i; ⟨bj, e1, i', Qv e2, e3⟩) i)
theorem fR {α : Type} (enc out : α → D) (I : af → Prop) {l : List α} {aq : List (Option Nat)} {elt it : E} {t : T} (hi : ef Δ (n + 1) it vars σ = some (l.map enc, σ1)) (hc : dD vars aq = true) (hl : l.length ≤ az)
  (hf : ∀ a ∈ l, ∀ vs, I vs → ∃ bj, cz t (enc a) vs = some bj ∧ I bj ∧ ah Δ (n + 1) elt bj σ1 = some (out a, σ1)) (i : I (cP vars aq)) : ah Δ (n + 1 + 1) (.comp aq elt t it []) vars σ = some (.lst (l.map out), σ1) := by
 have h := vX (elt := elt) (t := t) (ifs := []) hi hc (by rw [List.length_map]; exact hl) (vF enc out (fun ξ => true) I (fun a ha vs i => let ⟨bj, e1, i', e2⟩ := hf a ha vs i; ⟨bj, e1, i', rfl, fun ξ => e2⟩) i)
 rw [List.filter_eq_self.mpr (fun ξ ξ => rfl)] at h
 exact h
theorem Cj {α : Type} {f : D → af → ae → Option (aI × af × ae)} (enc : α → D) (I : af → Prop) : ∀ {l : List α} {vs : af}, (∀ a ∈ l, ∀ vs, I vs → ∃ bj, f (enc a) vs σ = some (.next, bj, σ) ∧ I bj) → I vs → ∃ bj, cC f (l.map enc) vs σ = some (.next, bj, σ) ∧ I bj := @fun aa => @(match aa with
 | [] => @fun vs ξ i => ⟨vs, rfl, i⟩
 | a :: l => @fun vs hf i => by
  obtain ⟨bj, e, i'⟩ := hf a List.mem_cons_self vs i
  obtain ⟨mY, e2, i2⟩ := Cj enc I (l := l) (fun b hb => hf b (List.mem_cons_of_mem _ hb)) i'
  exact ⟨mY, (eM e).trans e2, i2⟩)
theorem gS {α : Type} {enc : α → D} {l : List α} {i : Nat} (h : (vars[i]?).join = some (.lst (l.map enc))) (hl : l.length ≤ az) : ef Δ (n + 1 + 1) (.var i) vars σ = some (l.map enc, σ) := by
 refine (aP (f := ah Δ (n + 1) (.var i) vars) (k := jj) (x := .lst (l.map enc)) (σ1 := σ) ?_).trans ?_
 ·show (vars[i]?.join).map _ = _
  rw [h]; rfl
 ·show (if (l.map enc).length ≤ az then _ else none) = _
  rw [if_pos (by rw [List.length_map]; exact hl)]
end
theorem BG {α : Type} (enc : α → D) (h : ∀ a, aM (enc a) (enc a) = some true) : ∀ l : List α, cB (l.map enc) (l.map enc) = some true := @fun aa => match aa with
 | [] => rfl
 | a :: l => by
  show (aM (enc a) (enc a)).bind _ = _
  rw [h a]
  show (cB (l.map enc) (l.map enc)).map _ = _
  rw [BG enc h l]; rfl
theorem vJ {α : Type} (enc : α → D) {k : Nat} (h : ∀ a, (enc a).dep ≤ k) : ∀ l : List α, D.eY (l.map enc) ≤ k := @fun aa => match aa with
 | [] => Nat.zero_le _
 | a :: l => Nat.max_le.mpr ⟨h a, vJ enc h l⟩
theorem BL {α : Type} (enc : α → D) (h : ∀ a, aM (enc a) (enc a) = some true) (l : List α) : aM (.lst (l.map enc)) (.lst (l.map enc)) = some true := by
 show (if (l.map enc).length == (l.map enc).length then cB (l.map enc) (l.map enc) else some false) = _
 rw [beq_self_eq_true, BG enc h l]; rfl
theorem Bj {α : Type} (enc : α → D) {k : Nat} (h : ∀ a, (enc a).dep ≤ k) (hk : k ≤ 49) (l : List α) : (D.lst (l.map enc)).dep ≤ 50 := Nat.succ_le_succ (Nat.le_trans (vJ enc h l) hk)
theorem jc {x y : D} {t : Bool} (hd : x.dep ≤ 50) (h : aM x y = some t) : b8 .Eq x y = some t := (if_pos hd).trans h
theorem Ba {x y : D} {t : Bool} (hd : x.dep ≤ 50) (h : aM x y = some t) : b8 .NotEq x y = some (!t) := (if_pos hd).trans (by show (aM x y).map _ = _; rw [h]; rfl)
end Ev
end
section
namespace Ev
open PySem
noncomputable def zb (r g b : UInt64) : Option (UInt64 × UInt64 × UInt64) :=
 (sM r g b).bind fun mn => (dR mn (ir r g b)).bind fun t => if (t || (Float64.isZero (ir r g b) || Float64.isZero (Float64.sub (ir r g b) mn))) = true then none else
  (dR r (ir r g b)).bind fun br => (dR g (ir r g b)).bind fun bg => some (nW (l8 r g b (ir r g b) mn br bg), Float64.div (Float64.sub (ir r g b) mn) (ir r g b), ir r g b)
theorem E7 {a b : Bool} (h : (a || b) = false) : a = false ∧ b = false := by
 cases a with
 | true => exact ai h.symm
 | false => exact ⟨rfl, h⟩
theorem O3 {Δ : Dl} (aH : Δ.aH = true) {r g b : UInt64} {c : UInt64 × UInt64 × UInt64} (e : zb r g b = some c) : cM Δ 200 sS [.flt r, .flt g, .flt b] = some (.tup [.flt c.1, .flt c.2.1, .flt c.2.2]) :=
 aO e fun mn e1 e => aO e fun t e2 e => by
  obtain ⟨hz, e⟩ := gT e
  obtain ⟨h1, hz⟩ := E7 (Bool.eq_false_iff.mpr hz)
  obtain ⟨h2, h3⟩ := E7 hz
  exact aO e fun br e3 e => aO e fun bg e4 e => by
   rw [← Option.some.inj e]
   exact O1 aH (Ey r g b) (EC e1) (e2.trans (congrArg some h1)) h2 h3 e3 e4
theorem mul_if {x : Int} {q : UInt64} (h : eX x = true) : dH .Mult (.int x) (.flt q) = some (.flt (Float64.mul (Float64.ofInt x) q)) := if_neg (by rw [h]; decide)
theorem fW {a b : Int} (h : small a = true) : gb .Mult a b = some (.int (a * b)) := if_pos (by rw [h]; rfl)
theorem t6 {a b : Int} (h : b ≠ 0) : gb .Mod a b = some (.int (a.fmod b)) := if_neg (by rw [beq_eq_false_iff_ne.mpr h]; decide)
theorem qL {i : Int} (h : -1000000 ≤ i ∧ i ≤ 1000000) : small i = true := by unfold small; exact decide_eq_true (by lia)
theorem E9 {a b : Bool} {P : Prop} (h : (a || b) = true) (h1 : a = true → P) (h2 : b = true → P) : P := (Bool.or_eq_true_iff.mp h).elim h1 h2
theorem yi {a b : Int} (h : small b = true) : gb .Mult a b = some (.int (a * b)) := if_pos (by rw [h, Bool.or_true])
theorem sO {a b : Int} (h : b ≠ 0) (hs : small b = true) : gb .FloorDiv a b = some (.int (a.fdiv b)) := if_neg (by rw [hs, beq_eq_false_iff_ne.mpr h]; decide)
theorem v7 {Δ : Dl} {n : Nat} {vars : af} {σ : ae} {a : E} {lo hi st : Option E} {x y d : D} {tU gp cY : Option Int} (h1 : ah Δ n a vars σ = some (x, σ)) (h2 : fJ Δ n lo vars σ = some (tU, σ)) (h3 : fJ Δ n hi vars σ = some (gp, σ)) (h4 : fJ Δ n st vars σ = some (cY, σ)) (hr : res σ x = some y) (h : mR y tU gp cY = some d) : ah Δ (n + 1) (.eT a lo hi st) vars σ = some (d, σ) :=
 (aP (k := fun x => seq1 (fJ Δ n lo vars) fun lo => seq1 (fJ Δ n hi vars) fun hi => seq1 (fJ Δ n st vars) (qK x lo hi)) h1).trans ((aP (k := fun lo => seq1 (fJ Δ n hi vars) fun hi => seq1 (fJ Δ n st vars) (qK x lo hi)) h2).trans ((aP (k := fun hi => seq1 (fJ Δ n st vars) (qK x tU hi)) h3).trans ((aP h4).trans (by
  show (res σ x).bind _ = _
  rw [hr]
  show (mR y tU gp cY).map _ = _
  rw [h]; rfl))))
theorem rI {a b : List Nat} (h : a.length + b.length ≤ az) : dH .Add (.str a) (.str b) = some (.str (a ++ b)) := if_pos h
theorem Nx (a b : Nat) : max (a : Int) (b : Int) = ((max a b : Nat) : Int) := by
 rcases Nat.le_total a b with h | h
 ·rw [Nat.max_eq_right h, Int.max_eq_right (Int.ofNat_le.mpr h)]
 ·rw [Nat.max_eq_left h, Int.max_eq_left (Int.ofNat_le.mpr h)]
theorem vZ {α : Type} {Δ : Dl} {n : Nat} {vars : af} {σ σ1 : ae} {a : E} {enc : α → D} {l : List α} (h : ah Δ n a vars σ = some (.lst (l.map enc), σ1)) (hl : l.length ≤ az) : ah Δ (n + 1 + 1) (.bi .len [a]) vars σ = some (.int l.length, σ1) := by
 have e := lN h rfl (by rw [List.length_map]; exact hl)
 rw [List.length_map] at e
 exact e
theorem Jl {Δ : Dl} {n : Nat} {vars : af} {σ σ1 : ae} {es : List E} {ds ds' : List D} {d : D} (hs : Δ.di = true) (h : bA Δ n es vars σ = some (ds, σ1)) (hr : jq σ1 ds = some ds') (hb : c9 .sorted ds' = some d) : ah Δ (n + 1) (.bi .sorted es) vars σ = some (d, σ1) := by
 show (if (true && !Δ.di) = true then none else seq1 (bA Δ n es vars) (jb .sorted) σ) = _
 rw [hs]
 exact (aP h).trans (AM hr hb)
theorem nL {Δ : Dl} {n : Nat} {vars : af} {σ σ1 σ2 : ae} {c a b : E} {t : Bool} {d : D} (h : aX Δ n c vars σ = some (t, σ1)) (h1 : t = true → ah Δ n a vars σ1 = some (d, σ2)) (h2 : t = false → ah Δ n b vars σ1 = some (d, σ2)) : ah Δ (n + 1) (.ite c a b) vars σ = some (d, σ2) :=
 (aP (k := fun (t : Bool) (σ : ae) => if t then ah Δ n a vars σ else ah Δ n b vars σ) h).trans (by
  cases t with
  | true => exact h1 rfl
  | false => exact h2 rfl)
theorem aE.FJ {Δ : Dl} {n : Nat} {vars : af} {σ σ1 σ2 : ae} {e : E} {ss : List S} {d x : D} (h : ah Δ n e vars σ = some (x, σ1)) (hf : cS σ1 x = some (d, σ2)) : aE Δ (n + 1 + 1) (.ret e :: ss) vars σ d := ⟨vars, σ2, gm (pL h hf)⟩
end Ev
end
section
namespace Ev
open PySem PySem.W PySem.Calls PyProof.Rows PySem.SeqAt
noncomputable def C1 : Cc := Cc.mk ["rgb_to_hsv", "_law_lead", "_law_column", "_law_place", "_law_order", "_law_named", "_law_right", "_law_ways", "_law_cross", "_law_even", "_law_pair"] ["heappush", "heappop", "_siftdown", "_siftup"] ["longest_run_of_spaces", "indent_level", "not_equal_witness", "__init__", "less", "equal", "not_less_witness"] "Whitespace" [("S", [32]), ("T", [9])]
noncomputable def pS : Fn := ⟨6, 2, [
 .ite (.cmp .GtE (.attr (.var 0) 1) (.attr (.var 1) 1)) [.ret (.lit (.bool false))] [],
 .ite (.both (.attr (.var 0) 4) (.attr (.var 1) 4)) [.ret (.cmp .LtE (.attr (.var 0) 2) (.attr (.var 1) 2))] [],
 .asg [(.var 2)] (.bin .Add (.bi .max [(.bW 100 (.var 0) []), (.bW 100 (.var 1) [])]) (.lit (.int 1))),
 .for (.var 3) (.range [(.lit (.int 2)), (.bin .Add (.var 2) (.lit (.int 1)))]) [.ite (.cmp .GtE (.bW 101 (.var 0) [(.var 3)]) (.bW 101 (.var 1) [(.var 3)])) [.ret (.lit (.bool false))] []],
 .ret (.lit (.bool true))]⟩
noncomputable def BV : Fn := ⟨2, 2, [
 .ret (.cmp .Eq (.attr (.var 0) 3) (.attr (.var 1) 3))]⟩
noncomputable def wk : Fn := ⟨7, 2, [
 .asg [(.var 2)] (.bin .Add (.bi .max [(.bW 100 (.var 0) []), (.bW 100 (.var 1) [])]) (.lit (.int 1))),
 .asg [(.var 3)] (.lst []),
 .for (.var 4) (.range [(.lit (.int 1)), (.bin .Add (.var 2) (.lit (.int 1)))]) [.ite (.cmp .GtE (.bW 101 (.var 0) [(.var 4)]) (.bW 101 (.var 1) [(.var 4)])) [.expr (.append (.var 3) (.tup [(.var 4), (.bW 101 (.var 0) [(.var 4)]), (.bW 101 (.var 1) [(.var 4)])]))] []],
 .ret (.var 3)]⟩
noncomputable def B6 : Fn := ⟨5, 1, [
 .asg [(.var 1)] (.lit (.str [])),
 .for (.var 2) (.range [(.lit (.int 3))]) [.asg [(.var 3)] (.bin .Mod (.bin .FloorDiv (.var 0) (.bin .Pow (.lit (.int 6)) (.var 2))) (.lit (.int 6))), .ite (.cmp .Lt (.var 3) (.lit (.int 5))) [.asg [(.var 1)] (.bin .Add (.bin .Add (.var 1) (.bin .Mult (.lit (.str [32])) (.var 3))) (.lit (.str [9])))] []],
 .ret (.bin .Add (.var 1) (.bin .Mult (.lit (.str [32])) (.bin .Mod (.bin .FloorDiv (.var 0) (.lit (.int 216))) (.lit (.int 4)))))]⟩
noncomputable def B3 : Fn := ⟨4, 2, [
 .asg [(.var 2)] (.lit (.int 0)),
 .for (.var 3) (.var 0) [.ite (.cmp .Eq (.var 3) (.lit (.str [9]))) [.asg [(.var 2)] (.bin .Add (.bin .Mult (.bin .FloorDiv (.var 2) (.var 1)) (.var 1)) (.var 1))] [.asg [(.var 2)] (.bin .Add (.var 2) (.lit (.int 1)))]],
 .ret (.var 2)]⟩
noncomputable def B9 : Fn := ⟨8, 1, [
 .asg [(.tup [1, 2, 3])] (.var 0),
 .asg [(.var 4)] (.bi .min [(.var 0)]),
 .asg [(.var 5)] (.bin .Sub (.bi .max [(.var 0)]) (.var 4)),
 .ite (.cmp .Eq (.var 3) (.var 4)) [.ret (.ite (.cmp .GtE (.var 1) (.var 2)) (.bin .Sub (.var 2) (.var 4)) (.bin .Sub (.bin .Mult (.lit (.int 2)) (.var 5)) (.bin .Sub (.var 1) (.var 4))))] [],
 .ite (.cmp .Eq (.var 1) (.var 4)) [.ret (.ite (.cmp .GtE (.var 2) (.var 3)) (.bin .Sub (.bin .Add (.bin .Mult (.lit (.int 2)) (.var 5)) (.var 3)) (.var 4)) (.bin .Sub (.bin .Mult (.lit (.int 4)) (.var 5)) (.bin .Sub (.var 2) (.var 4))))] [],
 .ret (.ite (.cmp .GtE (.var 3) (.var 1)) (.bin .Sub (.bin .Add (.bin .Mult (.lit (.int 4)) (.var 5)) (.var 1)) (.var 4)) (.bin .Sub (.bin .Mult (.lit (.int 6)) (.var 5)) (.bin .Sub (.var 3) (.var 4))))]⟩
noncomputable def B7 : Fn := ⟨5, 1, [
 .asg [(.var 1)] (.bin .Sub (.bi .max [(.var 0)]) (.bi .min [(.var 0)])),
 .ret (.ite (.cmp .Gt (.var 1) (.lit (.int 0))) (.bin .FloorDiv (.bin .Mult (.call 3 [(.var 0)]) (.lit (.int 2000))) (.var 1)) (.lit (.int 0)))]⟩
noncomputable def we : Fn := ⟨9, 2, [
 .asg [(.tup [2, 3, 4])] (.comp [none, none, some 1] (.bin .Div (.bW 101 (.var 1) [(.var 2)]) (.lit (.flt 4634204016564240384))) (.var 1) (.var 0) []),
 .asg [(.tup [5, 6, 7])] (.call 0 [(.var 2), (.var 3), (.var 4)]),
 .ret (.tup [(.var 5), (.var 1), (.var 6), (.var 7)])]⟩
noncomputable def nN : Fn := ⟨12, 2, [
 .asg [(.tup [2, 3, 4, 5])] (.var 0),
 .asg [(.var 6)] (.bi .max [(.var 1)]),
 .asg [(.var 7)] (.bin .Sub (.var 6) (.bi .min [(.var 1)])),
 .ite (.cmp .Eq (.var 7) (.lit (.int 0))) [.ret (.cmp .Eq (.tup [(.var 2), (.var 4), (.var 5)]) (.tup [(.lit (.flt 0)), (.lit (.flt 0)), (.bin .Div (.var 6) (.lit (.flt 4634204016564240384)))]))] [],
 .ret (.cmp .Eq (.tup [(.bi .round [(.bin .Mult (.bin .Mult (.lit (.int 6)) (.var 7)) (.var 2))]), (.var 4), (.var 5)]) (.tup [(.call 3 [(.var 1)]), (.bin .Div (.var 7) (.var 6)), (.bin .Div (.var 6) (.lit (.flt 4634204016564240384)))]))]⟩
noncomputable def Ca : Fn := ⟨12, 1, [
 .asg [(.tup [1, 2, 3, 4])] (.var 0),
 .asg [(.var 5)] (.bi .round [(.bin .Mult (.bin .Mult (.lit (.int 64)) (.var 3)) (.var 4))]),
 .asg [(.var 6)] (.lst []),
 .for (.var 7) (.range [(.lit (.int 3))]) [.asg [(.var 8)] (.ite (.cmp .Gt (.var 5) (.lit (.int 0))) (.bin .Mod (.bin .Sub (.bi .round [(.bin .Mult (.bin .Mult (.lit (.int 6)) (.var 5)) (.var 1))]) (.bin .Mult (.bin .Mult (.lit (.int 2)) (.var 7)) (.var 5))) (.bin .Mult (.lit (.int 6)) (.var 5))) (.lit (.int 0))), .expr (.append (.var 6) (.bi .min [(.var 8), (.bin .Sub (.bin .Mult (.lit (.int 6)) (.var 5)) (.var 8))]))],
 .ret (.var 6)]⟩
noncomputable def B4 : Fn := ⟨2, 2, [
 .ret (.bin .Sub (.bin .Mult (.idx (.var 0) (.lit (.int 0))) (.idx (.var 1) (.lit (.int 1)))) (.bin .Mult (.idx (.var 0) (.lit (.int 1))) (.idx (.var 1) (.lit (.int 0)))))]⟩
noncomputable def B5 : Fn := ⟨11, 1, [
 .for (.var 1) (.range [(.bi .len [(.var 0)])]) [.for (.var 2) (.range [(.bin .Add (.var 1) (.lit (.int 1)))]) [.asg [(.var 3)] (.bin .Add (.bin .Mult (.idx (.idx (.var 0) (.var 1)) (.lit (.int 0))) (.idx (.idx (.var 0) (.var 2)) (.lit (.int 0)))) (.bin .Mult (.idx (.idx (.var 0) (.var 1)) (.lit (.int 1))) (.idx (.idx (.var 0) (.var 2)) (.lit (.int 1))))), .ite (.both (.cmp .Eq (.call 8 [(.idx (.var 0) (.var 1)), (.idx (.var 0) (.var 2))]) (.lit (.int 0))) (.cmp .LtE (.var 3) (.lit (.int 0)))) [.ret (.lit (.bool true))] [], .for (.var 4) (.range [(.var 2)]) [.asg [(.var 5)] (.lst [(.call 8 [(.idx (.var 0) (.var 1)), (.idx (.var 0) (.var 2))]), (.call 8 [(.idx (.var 0) (.var 2)), (.idx (.var 0) (.var 4))]), (.call 8 [(.idx (.var 0) (.var 4)), (.idx (.var 0) (.var 1))])]), .ite (.either (.cmp .Gt (.bi .min [(.var 5)]) (.lit (.int 0))) (.cmp .Lt (.bi .max [(.var 5)]) (.lit (.int 0)))) [.ret (.lit (.bool true))] []]]],
 .ret (.lit (.bool false))]⟩
noncomputable def B8 : Fn := ⟨9, 5, [
 .asg [(.var 5)] (.comp [none, none, none] (.cmp .Lt (.var 2) (.var 1)) (.tup [1, 2]) (.var 3) []),
 .asg [(.var 6)] (.comp [none, none, none] (.cmp .Eq (.var 2) (.var 1)) (.tup [1, 2]) (.var 3) []),
 .asg [(.var 7)] (.comp [none, none, some 5, some 2] (.tup [(.var 1), (.idx (.idx (.var 3) (.bin .Sub (.var 1) (.lit (.int 1)))) (.lit (.int 0))), (.idx (.idx (.var 3) (.bin .Sub (.var 1) (.lit (.int 1)))) (.lit (.int 1)))]) (.var 1) (.range [(.lit (.int 1)), (.bin .Add (.var 4) (.lit (.int 1)))]) [(.not (.idx (.var 2) (.bin .Sub (.var 1) (.lit (.int 1)))))]),
 .ite (.either (.cmp .NotEq (.bW 104 (.var 0) [(.var 1)]) (.cmp .NotIn (.lit (.bool false)) (.var 5))) (.cmp .NotEq (.bW 105 (.var 0) [(.var 1)]) (.cmp .NotIn (.lit (.bool false)) (.var 6)))) [.ret (.lit (.bool false))] [],
 .ret (.cmp .Eq (.bW 106 (.var 0) [(.var 1)]) (.var 7))]⟩
noncomputable def wd : Fn := ⟨27, 1, []⟩
noncomputable def Fk : List S := [
 .asg [(.var 1)] (.comp [none, none, none, none, none, some 0] (.call 1 [(.bin .Mod (.bin .Add (.var 2) (.bi .sum [(.eT (.var 5) (some (.var 1)) (some (.lit (.int 12))) (some (.lit (.int 3))))])) (.lit (.int 864)))]) (.tup [1, 2]) (.enum (.lst [(.lit (.int 475)), (.lit (.int 14)), (.lit (.int 3))])) []),
 .asg [(.var 2)] (.comp [none, none, none] (.new (.bin .Add (.var 1) (.lit (.str [120, 32, 9])))) (.var 1) (.var 1) []),
 .asg [(.var 3)] (.comp [none, none, none] (.bi .max [(.comp [none, none, none] (.bi .len [(.var 1)]) (.var 1) (.split (.var 1) (.lit (.str [9]))) [])]) (.var 1) (.var 1) [])]
noncomputable def Bp : E := (.kJ [(.lit (.int 1)), (.bin .Add (.bi .max [(.var 3)]) (.lit (.int 2)))])
noncomputable def EB : List S := [
 .asg [(.var 15)] (.comp [none, none, some 1] (.comp [none, none, none, some 1] (.call 2 [(.var 1), (.var 3)]) (.var 1) (.var 2) []) (.var 1) (.var 4) []),
 .asg [(.var 6)] (.lst []),
 .for (.var 5) (.var 4) [.expr (.eN 0 (.var 6) [(.call 5 [(.var 2), (.var 5)])])],
 .asg [(.var 7)] (.comp [none, none, none, some 6] (.eN 1 (.var 3) []) (.var 1) (.var 4) [])]
noncomputable def Bu : E := .comp [none, none] (.idx (.var 1) (.lit (.int 1))) (.var 1) (.var 7) []
noncomputable def Bt : E := .tup [(.call 4 [(.idx (.var 1) (.bin .Sub (.var 0) (.lit (.int 1))))]), (.var 0)]
noncomputable def FI : List S := [
 .ite (.cmp .NotEq (.comp [none, none, none, some 15] (.var 1) (.var 1) (.var 7) [(.not (.call 6 [(.var 1), (.idx (.var 3) (.bin .Sub (.idx (.var 1) (.lit (.int 1))) (.lit (.int 1))))]))]) (.lst [])) [.ret (.lit (.bool false))] [],
 .asg [(.var 8)] (.comp [none, none, none] (.var 2) (.tup [1, 2]) (.bi .sorted [(.comp [none, none, none] (.tup [(.idx (.var 1) (.lit (.int 1))), (.call 7 [(.var 1)])]) (.var 1) (.var 7) [])]) []),
 .for (.tup [9, 10]) (.lst [(.tup [(.lit (.int 0)), (.lit (.int 1))]), (.tup [(.lit (.int 1)), (.lit (.int 0))]), (.tup [(.lit (.int 0)), (.lit (.int 2))]), (.tup [(.lit (.int 2)), (.lit (.int 0))]), (.tup [(.lit (.int 1)), (.lit (.int 2))]), (.tup [(.lit (.int 2)), (.lit (.int 1))])]) [.asg [(.var 11)] (.comp [none, none, some 9, some 10] (.tup [(.idx (.var 1) (.var 2)), (.idx (.var 1) (.var 3))]) (.var 1) (.var 15) []), .ite (.not (.call 10 [(.idx (.var 2) (.var 9)), (.idx (.var 2) (.var 10)), (.var 11), (.comp [none, none, some 9, some 10] (.tup [(.idx (.var 1) (.var 2)), (.idx (.var 1) (.var 3))]) (.var 1) (.var 8) []), (.bin .Add (.bi .max [(.idx (.var 3) (.var 9)), (.idx (.var 3) (.var 10))]) (.lit (.int 1)))])) [.ret (.lit (.bool false))] []],
 .asg [(.var 12)] (.comp [none, none] (.idx (.var 1) (.lit (.int 0))) (.var 1) (.var 7) [(.cmp .Gt (.idx (.var 1) (.lit (.int 2))) (.lit (.flt 0)))]),
 .asg [(.var 13)] (.comp [none, none, none] (.bin .Sub (.var 2) (.var 1)) (.tup [1, 2]) (.zip (.var 12) (.bin .Add (.eT (.var 12) (some (.lit (.int 1))) none none) (.comp [none, none] (.bin .Add (.var 1) (.lit (.flt 4607182418800017408))) (.var 1) (.eT (.var 12) none (some (.lit (.int 1))) none) []))) []),
 .asg [(.var 14)] (.either (.cmp .Lt (.bi .len [(.var 12)]) (.bi .len [(.var 7)])) (.cmp .LtE (.bi .max [(.var 13)]) (.bin .Add (.lit (.flt 4602678819172646912)) (.bin .Div (.lit (.int 1)) (.lit (.int 1048576)))))),
 .ret (.cmp .Eq (.var 14) (.call 9 [(.comp [none, none] (.tup [(.bin .Sub (.idx (.var 1) (.lit (.int 0))) (.idx (.var 1) (.lit (.int 2)))), (.bin .Sub (.idx (.var 1) (.lit (.int 1))) (.idx (.var 1) (.lit (.int 2))))]) (.var 1) (.var 15) [])]))]
noncomputable def xT : i7 := ⟨Fk, 4, Bp, EB, .cmp .NotEq (.var 6) (.lst []), Bu, .var 4, Bt, [none, some 15, none], FI⟩
noncomputable def Aq : Nat → Option Fn
  | 0 => some sS
  | 1 => some B6
  | 2 => some B3
  | 3 => some B9
  | 4 => some B7
  | 5 => some we
  | 6 => some nN
  | 7 => some Ca
  | 8 => some B4
  | 9 => some B5
  | 10 => some B8
  | 100 => some Cb
  | 101 => some BY
  | 104 => some pS
  | 105 => some BV
  | 106 => some wk
  | _ => none
noncomputable def Ar : Nat → Option Fn
  | 0 => some v9
  | 1 => some jd
  | 2 => some pV
  | 3 => some pW
  | _ => none
noncomputable def T1 : jx := ⟨Aq, Ar, kj⟩
noncomputable def cj (zs : List Int) : af := cZ wd [.lst (zs.map .int)]
noncomputable def Ai : Prop := ∀ zs : List Int, zs.length ≤ 63 → rq xT (iw T1 false true 6) (iw T1 true true 6) (iw T1 true true 4) (cj zs) (.bool true)
end Ev
end
section
namespace Ev
open PySem
theorem nK {Δ : Dl} {n : Nat} {vars : af} {σ σ1 σ2 : ae} {op : Operator} {a b : E} {x y d : D} (hf : ji d = false) (h1 : ah Δ n a vars σ = some (x, σ1)) (h2 : ah Δ n b vars σ1 = some (y, σ2)) (hx : res σ2 x = some x) (hy : res σ2 y = some y) (ha : nu op x y = none) (h : dH op x y = some d) : ah Δ (n + 1) (.bin op a b) vars σ = some (d, σ2) := by
 rw [sI h1 h2]
 unfold nB
 rw [hx]
 show ((res σ2 y).bind _) = _
 rw [hy]
 show jB Δ op x y σ2 = _
 unfold jB
 rw [ha]
 show (dH op x y).bind _ = _
 rw [h]
 show iQ Δ d σ2 = _
 unfold iQ
 rw [hf]; rfl
noncomputable def dig (N p : Nat) : Nat := N / p % 6
noncomputable def piece (d : Nat) : List Nat := if d < 5 then List.replicate d 32 ++ [9] else []
theorem yK (d : Nat) : (piece d).length ≤ 5 := by
 unfold piece
 by_cases h : d < 5
 ·rw [if_pos h, List.length_append, List.length_replicate]; exact h
 ·rw [if_neg h]; exact Nat.zero_le _
noncomputable abbrev le (N : Nat) (T : List Nat) (x2 x3 : Option D) : af := [some (.int N), some (.str T), x2, x3, none]
noncomputable def M0 : List S := [.asg [(.var 3)] (.bin .Mod (.bin .FloorDiv (.var 0) (.bin .Pow (.lit (.int 6)) (.var 2))) (.lit (.int 6))), .ite (.cmp .Lt (.var 3) (.lit (.int 5))) [.asg [(.var 1)] (.bin .Add (.bin .Add (.var 1) (.bin .Mult (.lit (.str [32])) (.var 3))) (.lit (.str [9])))] []]
noncomputable def M1 (Δ : Dl) : D → af → ae → Option (aI × af × ae) := fun d vars σ => (cz (.var 2) d vars).bind fun vars => aJ Δ 197 M0 vars σ
theorem xW {Δ : Dl} {N p : Nat} {k : Int} {T : List Nat} {x2 x3 : Option D} (hp : gb .Pow 6 k = some (.int (p : Nat))) (p0 : 1 ≤ p) (sp : small (p : Int) = true) (hT : T.length ≤ 100) : M1 Δ (.int k) (le N T x2 x3) [] = some (.next, le N (T ++ piece (dig N p)) (some (.int k)) (some (.int (dig N p : Nat))), []) := by
 have hd : ah Δ 195 (.bin .Mod (.bin .FloorDiv (.var 0) (.bin .Pow (.lit (.int 6)) (.var 2))) (.lit (.int 6))) (le N T (some (.int k)) x3) [] = some (.int (dig N p : Nat), []) :=
  aR (i := ((N / p : Nat) : Int)) (aR (a := .var 0) rfl (aR (a := .lit (.int 6)) (b := .var 2) rfl rfl hp) ((sO (by lia) sp).trans (by rw [pP]))) (b := .lit (.int 6)) rfl ((t6 (by decide)).trans (by rw [show (6 : Int) = ((6 : Nat) : Int) from rfl, Cf]; rfl))
 have h6 : dig N p < 6 := Nat.mod_lt _ (by decide)
 refine (bu (n := 196) (vars' := le N T (some (.int k)) (some (.int (dig N p : Nat)))) (bR hd rfl)).trans ?_
 have hc : aX Δ 194 (.cmp .Lt (.var 3) (.lit (.int 5))) (le N T (some (.int k)) (some (.int (dig N p : Nat)))) [] = some (decide (((dig N p : Nat) : Int) < 5), []) := bU (a := .var 3) (b := .lit (.int 5)) rfl rfl rfl rfl rfl
 unfold piece
 by_cases h : dig N p < 5
 ·rw [if_pos h, ← List.append_assoc]
  rw [decide_eq_true (show ((dig N p : Nat) : Int) < 5 by lia)] at hc
  exact cV (gO hc (cV (bR (nK rfl (nK rfl (a := .var 1) rfl (nK rfl (a := .lit (.str [32])) (b := .var 3) rfl rfl rfl rfl rfl (FQ (by lia))) rfl rfl rfl (rI (by rw [List.length_replicate]; exact Nat.le_trans (Nat.add_le_add hT (Nat.le_of_lt h)) (by decide)))) (b := .lit (.str [9])) rfl rfl rfl rfl (rI (by rw [List.length_append, List.length_replicate]; exact Nat.le_trans (Nat.add_le_add_right (Nat.add_le_add hT (Nat.le_of_lt h)) 1) (by decide)))) rfl)))
 ·rw [if_neg h, List.append_nil]
  rw [decide_eq_false (show ¬ ((dig N p : Nat) : Int) < 5 by lia)] at hc
  exact cV (gM hc rfl)
noncomputable def cW (N : Nat) : List Nat := [dig N 1, dig N 6, dig N 36].filter (fun d => decide (d < 5))
noncomputable def dP (N : Nat) : Nat := N / 216 % 4
theorem ze : ∀ (a b : List Nat), bZ (a ++ b) = bZ a ++ bZ b := @fun aa => @(match aa with
 | [] => @fun ξ => rfl
 | r :: a => @fun b => by show (List.replicate r 32 ++ [9]) ++ bZ (a ++ b) = (List.replicate r 32 ++ [9]) ++ bZ a ++ bZ b; rw [ze a b, ← List.append_assoc])
theorem yL (d : Nat) : piece d = bZ ([d].filter (fun d => decide (d < 5))) := by
 unfold piece
 by_cases h : d < 5
 ·have e : [d].filter (fun d => decide (d < 5)) = [d] := List.filter_cons_of_pos (decide_eq_true h)
  rw [if_pos h, e]; exact (List.append_nil _).symm
 ·have e : [d].filter (fun d => decide (d < 5)) = [] := List.filter_cons_of_neg (by rw [decide_eq_false h]; decide)
  rw [if_neg h, e]; rfl
theorem FY (N : Nat) : piece (dig N 1) ++ piece (dig N 6) ++ piece (dig N 36) = bZ (cW N) := by
 rw [yL, yL, yL, ← ze, ← ze, ← List.filter_append, ← List.filter_append]; rfl
noncomputable def txt (rs : List Nat) (tr : Nat) : List Nat := bZ rs ++ List.replicate tr 32
theorem M6 {Δ : Dl} {N : Nat} : cM Δ 200 B6 [.int N] = some (.str (txt (cW N) (dP N))) := by
 have l1 : (piece (dig N 1)).length ≤ 5 := yK _
 have l2 : (piece (dig N 1) ++ piece (dig N 6)).length ≤ 10 := by rw [List.length_append]; exact Nat.add_le_add l1 (yK _)
 have l3 : (piece (dig N 1) ++ piece (dig N 6) ++ piece (dig N 36)).length ≤ 15 := by rw [List.length_append]; exact Nat.add_le_add l2 (yK _)
 have t1 := xW (Δ := Δ) (N := N) (p := 1) (k := 0) (T := []) (x2 := none) (x3 := none) rfl (by decide) rfl (Nat.zero_le _)
 have t2 := xW (Δ := Δ) (N := N) (p := 6) (k := 1) (T := [] ++ piece (dig N 1)) (x2 := some (.int 0)) (x3 := some (.int (dig N 1 : Nat))) rfl (by decide) rfl (Nat.le_trans l1 (by decide))
 have t3 := xW (Δ := Δ) (N := N) (p := 36) (k := 2) (T := [] ++ piece (dig N 1) ++ piece (dig N 6)) (x2 := some (.int 1)) (x3 := some (.int (dig N 6 : Nat))) rfl (by decide) rfl (Nat.le_trans l2 (by decide))
 have hf := (eM (ds := [.int 1, .int 2]) t1).trans ((eM (ds := [.int 2]) t2).trans (eM (ds := []) t3))
 have ht : dP N < 4 := Nat.mod_lt _ (by decide)
 rw [List.nil_append, FY] at hf
 rw [FY] at l3
 refine aE.run (aE.asg (x := .str []) rfl rfl (aE.step (vars' := le N (bZ (cW N)) (some (.int 2)) (some (.int (dig N 36 : Nat)))) (σ' := []) ((gK (ds := [.int 0, .int 1, .int 2]) (σ1 := []) rfl).trans (hf.trans rfl)) (aE.ret (x := .str (txt (cW N) (dP N))) (nK rfl (a := .var 1) rfl (nK rfl (a := .lit (.str [32])) rfl (aR (i := ((N / 216 : Nat) : Int)) (k := ((dP N : Nat) : Int)) (aR (a := .var 0) (b := .lit (.int 216)) rfl rfl ((sO (by decide) rfl).trans (by rw [show (216 : Int) = ((216 : Nat) : Int) from rfl, pP]))) (b := .lit (.int 4)) rfl ((t6 (by decide)).trans (by rw [show (4 : Int) = ((4 : Nat) : Int) from rfl, Cf]; rfl))) rfl rfl rfl (FQ (by lia))) rfl rfl rfl (rI (by rw [List.length_replicate]; exact Nat.le_trans (Nat.add_le_add l3 (Nat.le_of_lt ht)) (by decide)))) rfl))) rfl rfl rfl
end Ev
end
section
namespace Ev
open PySem
noncomputable abbrev mH (as bs : List (Nat × D)) (m : Int) (x3 : Option D) : af := [some (.inst as), some (.inst bs), some (.int m), x3, none, none]
noncomputable def lsBody : List S := [.ite (.cmp .GtE (.bW 101 (.var 0) [(.var 3)]) (.bW 101 (.var 1) [(.var 3)])) [.ret (.lit (.bool false))] []]
noncomputable def Ej (Δ : Dl) : D → af → ae → Option (aI × af × ae) := fun d vars σ => (cz (.var 3) d vars).bind fun vars => aJ Δ 195 lsBody vars σ
noncomputable def Ek (b : Bool) : aI := if b then .next else .ret (.bool false)
theorem Nk {Δ : Dl} {as bs : List (Nat × D)} {f g : Int → Int} {m a : Int} {x3 : Option D} (pa : D.bF as = true) (pb : D.bF bs = true) (h1 : Δ.fns 101 [.inst as, .int a] = some (.int (f a))) (h2 : Δ.fns 101 [.inst bs, .int a] = some (.int (g a))) :
  Ej Δ (.int a) (mH as bs m x3) [] = some (Ek (decide (f a < g a)), mH as bs m (some (.int a)), []) := by
 have p1 : D.aL [.inst as, .int a] = true := by show (D.bF as && (true && true)) = true; rw [pa]; rfl
 have p2 : D.aL [.inst bs, .int a] = true := by show (D.bF bs && (true && true)) = true; rw [pb]; rfl
 have hc : aX Δ 193 (.cmp .GtE (.bW 101 (.var 0) [(.var 3)]) (.bW 101 (.var 1) [(.var 3)])) (mH as bs m (some (.int a))) [] = some (decide (f a ≥ g a), []) := bU (iz (ds := [.int a]) rfl rfl p1 h1) (iz (ds := [.int a]) rfl rfl p2 h2) rfl rfl rfl
 by_cases h : f a < g a
 ·rw [decide_eq_false (show ¬ f a ≥ g a from Int.not_le.mpr h)] at hc
  rw [decide_eq_true h]
  exact cV (n := 193) (gM hc rfl)
 ·rw [decide_eq_true (show f a ≥ g a from Int.not_lt.mp h)] at hc
  rw [decide_eq_false h]
  exact gm (n := 194) (gO hc rfl)
theorem El {Δ : Dl} {as bs : List (Nat × D)} {f g : Int → Int} {m : Int} (pa : D.bF as = true) (pb : D.bF bs = true) : ∀ (k : Nat) (a : Int) (x3 : Option D), (∀ i, a ≤ i → i < a + k → Δ.fns 101 [.inst as, .int i] = some (.int (f i)) ∧ Δ.fns 101 [.inst bs, .int i] = some (.int (g i))) →
  ∃ y3, cC (Ej Δ) ((intsFrom a k).map .int) (mH as bs m x3) [] = some (Ek ((intsFrom a k).all fun i => decide (f i < g i)), mH as bs m y3, []) := @fun aa => @(match aa with
 | 0 => @fun a x3 ξ => ⟨x3, rfl⟩
 | k + 1 => @fun a x3 h => by
  obtain ⟨h1, h2⟩ := h a (Int.le_refl a) (by lia)
  have e := Nk (Δ := Δ) (f := f) (g := g) (m := m) (x3 := x3) pa pb h1 h2
  have ea : (intsFrom a (k + 1)).all (fun i => decide (f i < g i)) = (decide (f a < g a) && (intsFrom (a + 1) k).all fun i => decide (f i < g i)) := rfl
  rw [ea]
  cases hq : decide (f a < g a) with
  | true =>
   rw [hq] at e
   obtain ⟨y3, e2⟩ := El pa pb k (a + 1) (some (.int a)) (fun i q1 q2 => h i (by lia) (by lia))
   exact ⟨y3, (eM (ds := (intsFrom (a + 1) k).map .int) e).trans e2⟩
  | false =>
   rw [hq] at e
   exact ⟨some (.int a), (eM (ds := (intsFrom (a + 1) k).map .int) e).trans rfl⟩)
noncomputable def NU : List S := [.ite (.cmp .GtE (.bW 101 (.var 0) [(.var 4)]) (.bW 101 (.var 1) [(.var 4)])) [.expr (.append (.var 3) (.tup [(.var 4), (.bW 101 (.var 0) [(.var 4)]), (.bW 101 (.var 1) [(.var 4)])]))] []]
noncomputable def ET (Δ : Dl) : D → af → ae → Option (aI × af × ae) := fun d vars σ => (cz (.var 4) d vars).bind fun vars => aJ Δ 196 NU vars σ
theorem NV {Δ : Dl} {as bs : List (Nat × D)} {f g : Int → Int} {x2 x4 x5 x6 : Option D} {a : Int} {xs : List D} (pa : D.bF as = true) (pb : D.bF bs = true) (h1 : Δ.fns 101 [.inst as, .int a] = some (.int (f a))) (h2 : Δ.fns 101 [.inst bs, .int a] = some (.int (g a))) (hx : xs.length < az) :
  ET Δ (.int a) (wv as bs x2 x4 x5 x6) [some (.lst xs)] = some (.next, wv as bs x2 (some (.int a)) x5 x6, [some (.lst (xs ++ if decide (f a ≥ g a) then [iZ a (f a) (g a)] else []))]) := by
 have p1 : D.aL [.inst as, .int a] = true := by show (D.bF as && (true && true)) = true; rw [pa]; rfl
 have p2 : D.aL [.inst bs, .int a] = true := by show (D.bF bs && (true && true)) = true; rw [pb]; rfl
 have m1 : ∀ n, ah Δ (n + 1 + 1 + 1) (.bW 101 (.var 0) [.var 4]) (wv as bs x2 (some (.int a)) x5 x6) [some (.lst xs)] = some (.int (f a), [some (.lst xs)]) := fun n => iz (n := n + 1 + 1) (ds := [.int a]) rfl rfl p1 h1
 have m2 : ∀ n, ah Δ (n + 1 + 1 + 1) (.bW 101 (.var 1) [.var 4]) (wv as bs x2 (some (.int a)) x5 x6) [some (.lst xs)] = some (.int (g a), [some (.lst xs)]) := fun n => iz (n := n + 1 + 1) (ds := [.int a]) rfl rfl p2 h2
 have hc : aX Δ 194 (.cmp .GtE (.bW 101 (.var 0) [(.var 4)]) (.bW 101 (.var 1) [(.var 4)])) (wv as bs x2 (some (.int a)) x5 x6) [some (.lst xs)] = some (decide (f a ≥ g a), [some (.lst xs)]) := bU (m1 189) (m2 189) rfl rfl rfl
 cases hq : decide (f a ≥ g a) with
 | false =>
  rw [hq] at hc
  exact cV (n := 194) (gM hc (by rw [if_neg (by decide), List.append_nil]; rfl))
 | true =>
  rw [hq] at hc
  refine cV (n := 194) (gO hc (cV (n := 192) (lP (vW (l := 0) (σ2 := [some (.lst xs)]) (o := .var 3) rfl rfl (y := iZ a (f a) (g a)) ?_ rfl hx))))
  exact (aP (k := tupK) (aN (a := .var 4) (n := 189) rfl (aN (m1 185) (aN (m2 184) rfl)))).trans rfl
theorem EU {Δ : Dl} {as bs : List (Nat × D)} {f g : Int → Int} {x2 x5 x6 : Option D} (pa : D.bF as = true) (pb : D.bF bs = true) : ∀ (m : Nat) (a : Int) (xs : List D) (x4 : Option D), (∀ i, a ≤ i → i < a + m → Δ.fns 101 [.inst as, .int i] = some (.int (f i)) ∧ Δ.fns 101 [.inst bs, .int i] = some (.int (g i))) → xs.length + m ≤ 1000 →
  ∃ uQ, cC (ET Δ) ((intsFrom a m).map .int) (wv as bs x2 x4 x5 x6) [some (.lst xs)] = some (.next, wv as bs x2 uQ x5 x6, [some (.lst (xs ++ ((intsFrom a m).filter (fun i => decide (f i ≥ g i))).map fun i => iZ i (f i) (g i)))]) := @fun aa => @(match aa with
 | 0 => @fun a xs x4 h hx => ⟨x4, by show some _ = _; rw [show xs ++ ((intsFrom a 0).filter (fun i => decide (f i ≥ g i))).map (fun i => iZ i (f i) (g i)) = xs from List.append_nil xs]⟩
 | m + 1 => @fun a xs x4 h hx => by
  obtain ⟨h1, h2⟩ := h a (Int.le_refl a) (by lia)
  have e5 := NV (Δ := Δ) (f := f) (g := g) (x2 := x2) (x4 := x4) (x5 := x5) (x6 := x6) pa pb h1 h2 (Nat.lt_of_lt_of_le (Nat.lt_of_lt_of_le (Nat.lt_add_of_pos_right (Nat.succ_pos _)) hx) (by decide))
  have hk : (if decide (f a ≥ g a) then [iZ a (f a) (g a)] else []).length ≤ 1 := by
   cases decide (f a ≥ g a) with
   | true => exact Nat.le_refl 1
   | false => exact Nat.zero_le 1
  obtain ⟨uQ, e⟩ := EU (x2 := x2) (x5 := x5) (x6 := x6) pa pb m (a + 1) (xs ++ if decide (f a ≥ g a) then [iZ a (f a) (g a)] else []) (some (.int a)) (fun i q1 q2 => h i (by lia) (by lia)) (by rw [List.length_append]; lia)
  refine ⟨uQ, (eM (ds := (intsFrom (a + 1) m).map .int) e5).trans (Eq.trans e ?_)⟩
  rw [List.append_assoc, show intsFrom a (m + 1) = a :: intsFrom (a + 1) m from rfl, List.filter_cons]
  cases hq : decide (f a ≥ g a) with
  | true => rfl
  | false => rfl)
theorem NW {Δ : Dl} {as bs : List (Nat × D)} {f g : Int → Int} {la lb : Int} {m : Nat} (pa : D.bF as = true) (pb : D.bF bs = true) (h1 : Δ.fns 100 [.inst as] = some (.int la)) (h2 : Δ.fns 100 [.inst bs] = some (.int lb)) (hm : max la lb + 1 = m) (CP : m ≤ 900)
  (h : ∀ i : Int, 1 ≤ i → i ≤ m → Δ.fns 101 [.inst as, .int i] = some (.int (f i)) ∧ Δ.fns 101 [.inst bs, .int i] = some (.int (g i))) :
  cM Δ 200 wk [.inst as, .inst bs] = some (.lst (((intsFrom 1 m).filter (fun i => decide (f i ≥ g i))).map fun i => iZ i (f i) (g i))) := by
 obtain ⟨uQ, hl⟩ := EU (Δ := Δ) (f := f) (g := g) (x2 := some (.int m)) (x5 := none) (x6 := none) pa pb m 1 [] none (fun i q1 q2 => h i q1 (by lia)) (by show 0 + m ≤ _; lia)
 have p1 : D.aL [.inst as] = true := by show (D.bF as && true) = true; rw [pa]; rfl
 have p2 : D.aL [.inst bs] = true := by show (D.bF bs && true) = true; rw [pb]; rfl
 have p3 : D.aL [.inst as, .inst bs] = true := by show (D.bF as && (D.bF bs && true)) = true; rw [pa, pb]; rfl
 have hn : ((m : Int) + 1 - 1).toNat = m := by lia
 have hi := tJ (Δ := Δ) (n := 195) (a := 1) (b := m + 1) (vars := wv as bs (some (.int m)) none none none) (σ := [some (.lst [])]) (σ' := [some (.lst [])]) (aN (a := .lit (.int 1)) (es := [.bin .Add (.var 2) (.lit (.int 1))]) rfl (aN (n := 193) rfl rfl)) rfl (jX (n := m + 1) (by lia)) (by rw [hn]; exact Nat.le_trans CP (by decide))
 rw [hn] at hi
 have hx := v5 (n := 193) (vars := cZ wk [.inst as, .inst bs]) (σ := []) (iz (o := .var 0) (es := []) rfl rfl p1 h1) (iz (o := .var 1) (es := []) rfl rfl p2 h2)
 exact aE.run (aE.asg (x := .int m) (aR hx (b := .lit (.int 1)) rfl (congrArg (fun k => some (D.int k)) hm)) rfl (aE.step (σ' := [some (.lst [])]) (bR (d := .loc 0) rfl rfl) (aE.step ((gK hi).trans hl) (aE.FJ rfl rfl)))) rfl p3 (gC _ (fun x => rfl) _)
end Ev
end
section
namespace Ev
open PySem
theorem zK {Δ : Dl} {n : Nat} {vars : af} {σ σ1 : ae} {a b : E} {t u : Bool} (h1 : aX Δ n a vars σ = some (t, σ1)) (h2 : aX Δ n b vars σ1 = some (u, σ1)) : aX Δ (n + 1) (.both a b) vars σ = some (t && u, σ1) :=
 (aP (k := fun (t : Bool) (σ : ae) => if t then aX Δ n b vars σ else some (false, σ)) h1).trans (by
  cases t with
  | true => exact h2
  | false => rfl)
noncomputable def tQ (n1 n2 fD fE : Int) (s1 s2 : Bool) (m : Nat) (f g : Int → Int) : Bool := if n1 ≥ n2 then false else if s1 && s2 then decide (fD ≤ fE) else (intsFrom 2 (m - 1)).all fun i => decide (f i < g i)
noncomputable abbrev lq (t : List Nat) (cs : List Int) (tr n nt : Int) : List (Nat × D) := [(0, .str t), (1, .int n), (2, .int nt), (3, .tup [.tup (cs.map .int), .int tr]), (4, .bool (decide (cs.length ≤ 1)))]
theorem z9 {t : List Nat} {cs : List Int} {tr n nt : Int} : D.bF (lq t cs tr n nt) = true := jn (t := t) (cs := cs) (tr := tr) (n := n) (nt := nt)
theorem M9 {Δ : Dl} {t1 t2 : List Nat} {d9 fy : List Int} {fX gF n1 n2 fD fE : Int} {f g : Int → Int} {la lb : Int} {m : Nat} (h1 : Δ.fns 100 [c7 t1 d9 fX n1 fD] = some (.int la)) (h2 : Δ.fns 100 [c7 t2 fy gF n2 fE] = some (.int lb)) (hm : max la lb + 1 = m) (m1 : 1 ≤ m) (CP : m ≤ 900)
  (h : ∀ i : Int, 1 ≤ i → i ≤ m → Δ.fns 101 [c7 t1 d9 fX n1 fD, .int i] = some (.int (f i)) ∧ Δ.fns 101 [c7 t2 fy gF n2 fE, .int i] = some (.int (g i))) :
  cM Δ 200 pS [c7 t1 d9 fX n1 fD, c7 t2 fy gF n2 fE] = some (.bool (tQ n1 n2 fD fE (decide (d9.length ≤ 1)) (decide (fy.length ≤ 1)) m f g)) := by
 have pa : D.bF (lq t1 d9 fX n1 fD) = true := z9
 have pb : D.bF (lq t2 fy gF n2 fE) = true := z9
 have p3 : D.aL [c7 t1 d9 fX n1 fD, c7 t2 fy gF n2 fE] = true := uo jn jn
 refine aE.run ?_ rfl p3 rfl
 have c1 : aX Δ 198 (.cmp .GtE (.attr (.var 0) 1) (.attr (.var 1) 1)) (cZ pS [c7 t1 d9 fX n1 fD, c7 t2 fy gF n2 fE]) [] = some (decide (n1 ≥ n2), []) := bU (a := .attr (.var 0) 1) (b := .attr (.var 1) 1) (x := .int n1) (y := .int n2) rfl rfl rfl rfl rfl
 unfold tQ
 by_cases hn : n1 ≥ n2
 ·rw [decide_eq_true hn] at c1
  rw [if_pos hn]
  exact aE.n5 c1 (aE.ret (x := .bool false) rfl rfl)
 ·rw [decide_eq_false hn] at c1
  rw [if_neg hn]
  refine aE.skip c1 ?_
  have c2 : aX Δ 197 (.both (.attr (.var 0) 4) (.attr (.var 1) 4)) (cZ pS [c7 t1 d9 fX n1 fD, c7 t2 fy gF n2 fE]) [] = some (decide (d9.length ≤ 1) && decide (fy.length ≤ 1), []) := zK rfl rfl
  cases hs : decide (d9.length ≤ 1) && decide (fy.length ≤ 1) with
  | true =>
   rw [hs] at c2
   exact aE.n5 c2 (aE.ret (x := .bool (decide (fD ≤ fE))) (ig (a := .attr (.var 0) 2) (b := .attr (.var 1) 2) (x := .int fD) (y := .int fE) rfl rfl rfl rfl rfl) rfl)
  | false =>
   rw [hs] at c2
   refine aE.skip c2 ?_
   obtain ⟨y3, hl⟩ := El (Δ := Δ) (f := f) (g := g) (m := (m : Int)) pa pb (m - 1) 2 none (fun i q1 q2 => h i (by lia) (by lia))
   have hx := v5 (Δ := Δ) (n := 191) (vars := cZ pS [c7 t1 d9 fX n1 fD, c7 t2 fy gF n2 fE]) (σ := []) (iz (o := .var 0) (es := []) rfl rfl (um jn) h1) (iz (o := .var 1) (es := []) rfl rfl (um jn) h2)
   have hi := tJ (Δ := Δ) (n := 194) (a := 2) (b := m + 1) (vars := mH (lq t1 d9 fX n1 fD) (lq t2 fy gF n2 fE) m none) (σ := []) (aN (a := .lit (.int 2)) (es := [.bin .Add (.var 2) (.lit (.int 1))]) rfl (aN (n := 192) rfl rfl)) rfl (jX (n := m + 1) (by lia)) (by unfold az; lia)
   rw [show ((m : Int) + 1 - 2).toNat = m - 1 by lia] at hi
   refine aE.asg (vars' := mH (lq t1 d9 fX n1 fD) (lq t2 fy gF n2 fE) m none) (x := .int m) (aR hx (b := .lit (.int 1)) rfl (congrArg (fun k => some (D.int k)) hm)) rfl ?_
   show aE Δ 197 _ _ [] (.bool ((intsFrom 2 (m - 1)).all fun i => decide (f i < g i)))
   cases hq : (intsFrom 2 (m - 1)).all fun i => decide (f i < g i) with
   | true =>
    rw [hq] at hl
    exact aE.step ((gK hi).trans hl) (aE.ret (x := .bool true) rfl rfl)
   | false =>
    rw [hq] at hl
    exact ⟨_, _, gm ((gK hi).trans hl)⟩
theorem Je {Δ : Dl} {t1 t2 : List Nat} {d9 fy : List Int} {fX gF n1 n2 fD fE : Int} {b : Bool} (h : aM (.tup [.tup (d9.map .int), .int fX]) (.tup [.tup (fy.map .int), .int gF]) = some b) : cM Δ 200 BV [c7 t1 d9 fX n1 fD, c7 t2 fy gF n2 fE] = some (.bool b) := by
 have hd : (D.tup [.tup (d9.map .int), .int fX]).dep ≤ 50 := by
  have e := vJ D.int (k := 0) (fun a => Nat.le_refl 0) d9
  show max (D.eY (d9.map .int) + 1) (max 0 0) + 1 ≤ 50
  lia
 exact aE.run (aE.ret (x := .bool b) (ig (a := .attr (.var 0) 3) (b := .attr (.var 1) 3) (x := .tup [.tup (d9.map .int), .int fX]) (y := .tup [.tup (fy.map .int), .int gF]) rfl rfl rfl rfl (jc hd h)) rfl) rfl (uo jn jn) rfl
end Ev
end
section
namespace Ev
open PySem
noncomputable def eO (a b : Int) : Int := if b < a then b else a
noncomputable def ff (a b : Int) : Int := if a < b then b else a
theorem qB {b x : Int} {xs : List D} : cL (cQ .Lt) (.int b) (.int x :: xs) = cL (cQ .Lt) (.int (eO b x)) xs := by
 show (match some (decide (x < b)) with | some true => cL (cQ .Lt) (.int x) xs | some false => cL (cQ .Lt) (.int b) xs | none => none) = _
 unfold eO
 by_cases h : x < b
 ·rw [decide_eq_true h, if_pos h]
 ·rw [decide_eq_false h, if_neg h]
theorem uf {b x : Int} {xs : List D} : cL (cQ .Gt) (.int b) (.int x :: xs) = cL (cQ .Gt) (.int (ff b x)) xs := by
 show (match some (decide (x > b)) with | some true => cL (cQ .Gt) (.int x) xs | some false => cL (cQ .Gt) (.int b) xs | none => none) = _
 unfold ff
 by_cases h : b < x
 ·rw [decide_eq_true (show x > b from h), if_pos h]
 ·rw [decide_eq_false (show ¬ x > b from h), if_neg h]
structure aD where
 r : Int
 g : Int
 b : Int
noncomputable def aD.low (c : aD) : Int := eO (eO c.r c.g) c.b
noncomputable def aD.top (c : aD) : Int := ff (ff c.r c.g) c.b
noncomputable def aD.wide (c : aD) : Int := c.top - c.low
noncomputable def aD.place (c : aD) : Int :=
 if c.b == c.low then (if c.r ≥ c.g then c.g - c.low else 2 * c.wide - (c.r - c.low))
 else if c.r == c.low then (if c.g ≥ c.b then 2 * c.wide + c.b - c.low else 4 * c.wide - (c.g - c.low))
 else (if c.b ≥ c.r then 4 * c.wide + c.r - c.low else 6 * c.wide - (c.b - c.low))
noncomputable def aD.d (c : aD) : D := .lst [.int c.r, .int c.g, .int c.b]
theorem yg (c : aD) : c9 .min [c.d] = some (.int c.low) := qB.trans qB
theorem yc (c : aD) : c9 .max [c.d] = some (.int c.top) := uf.trans uf
noncomputable abbrev yO (c : aD) : af := [some c.d, some (.int c.r), some (.int c.g), some (.int c.b), some (.int c.low), some (.int c.wide), none, none]
theorem J0 {x y : Int} (h : x ≥ y) : b8 .GtE (.int x) (.int y) = some true := congrArg some (decide_eq_true h)
theorem JZ {x y : Int} (h : ¬ x ≥ y) : b8 .GtE (.int x) (.int y) = some false := congrArg some (decide_eq_false h)
theorem xR {Δ : Dl} {n : Nat} {vars : af} {i j : Nat} {x y u v : Int} {a b : E} (hi : ah Δ n (.var i) vars [] = some (.int x, [])) (hj : ah Δ n (.var j) vars [] = some (.int y, [])) (ha : ah Δ (n + 1 + 1) a vars [] = some (.int u, [])) (hb : ah Δ (n + 1 + 1) b vars [] = some (.int v, [])) : ah Δ (n + 1 + 1 + 1) (.ite (.cmp .GtE (.var i) (.var j)) a b) vars [] = some (.int (if x ≥ y then u else v), []) := by
 by_cases h : x ≥ y
 ·rw [if_pos h]; exact nL (bU hi hj rfl rfl (J0 h)) (fun ξ => ha) (fun q => ai q.symm)
 ·rw [if_neg h]; exact nL (bU hi hj rfl rfl (JZ h)) (fun q => ai q) (fun ξ => hb)
theorem OA {Δ : Dl} (c : aD) : cM Δ 200 B9 [c.d] = some (.int c.place) := by
 refine aE.run (aE.lF (vars' := [some c.d, some (.int c.r), some (.int c.g), some (.int c.b), none, none, none, none]) (e := .var 0) (x := c.d) rfl rfl (aE.asg (vars' := [some c.d, some (.int c.r), some (.int c.g), some (.int c.b), some (.int c.low), none, none, none]) (dK (ds := [c.d]) rfl rfl (yg c) rfl rfl) rfl (aE.asg (vars' := yO c) (aR (dK (ds := [c.d]) rfl rfl (yc c) rfl rfl) (b := .var 4) rfl rfl) rfl ?_))) rfl rfl rfl
 have t1 : aX Δ 195 (.cmp .Eq (.var 3) (.var 4)) (yO c) [] = some (c.b == c.low, []) := bU (a := .var 3) (b := .var 4) rfl rfl rfl rfl (jc (by decide : 0 ≤ 50) rfl)
 have t2 : aX Δ 194 (.cmp .Eq (.var 1) (.var 4)) (yO c) [] = some (c.r == c.low, []) := bU (a := .var 1) (b := .var 4) rfl rfl rfl rfl (jc (by decide : 0 ≤ 50) rfl)
 unfold aD.place
 cases h1 : c.b == c.low with
 | true =>
  rw [h1] at t1
  rw [if_pos rfl]
  exact aE.n5 t1 (aE.ret (xR (i := 1) (j := 2) rfl rfl (aR (a := .var 2) (b := .var 4) rfl rfl rfl) (aR (aR (a := .lit (.int 2)) (b := .var 5) rfl rfl (fW rfl)) (aR (a := .var 1) (b := .var 4) rfl rfl rfl) rfl)) rfl)
 | false =>
  rw [h1] at t1
  rw [if_neg (by decide)]
  refine aE.skip t1 ?_
  cases h2 : c.r == c.low with
  | true =>
   rw [h2] at t2
   rw [if_pos rfl]
   exact aE.n5 t2 (aE.ret (xR (i := 2) (j := 3) rfl rfl (aR (aR (aR (a := .lit (.int 2)) (b := .var 5) rfl rfl (fW rfl)) (b := .var 3) rfl rfl) (b := .var 4) rfl rfl) (aR (aR (a := .lit (.int 4)) (b := .var 5) rfl rfl (fW rfl)) (aR (a := .var 2) (b := .var 4) rfl rfl rfl) rfl)) rfl)
  | false =>
   rw [h2] at t2
   rw [if_neg (by decide)]
   exact aE.skip t2 (aE.ret (xR (i := 3) (j := 1) rfl rfl (aR (aR (aR (a := .lit (.int 4)) (b := .var 5) rfl rfl (fW rfl)) (b := .var 1) rfl rfl) (b := .var 4) rfl rfl) (aR (aR (a := .lit (.int 6)) (b := .var 5) rfl rfl (fW rfl)) (aR (a := .var 3) (b := .var 4) rfl rfl rfl) rfl)) rfl)
noncomputable def aD.order (c : aD) : Int := if c.wide > 0 then (c.place * 2000).fdiv c.wide else 0
theorem Oq {Δ : Dl} (c : aD) (hw : small c.wide = true) (h3 : Δ.fns 3 [c.d] = some (.int c.place)) : cM Δ 200 B7 [c.d] = some (.int c.order) := by
 refine aE.run (aE.asg (vars' := [some c.d, some (.int c.wide), none, none, none]) (aR (dK (ds := [c.d]) rfl rfl (yc c) rfl rfl) (dK (ds := [c.d]) rfl rfl (yg c) rfl rfl) rfl) rfl ?_) rfl rfl rfl
 unfold aD.order
 by_cases h : c.wide > 0
 ·rw [if_pos h]
  exact aE.ret (nL (bU (a := .var 1) (b := .lit (.int 0)) rfl rfl rfl rfl (show b8 .Gt (.int c.wide) (.int 0) = some true from congrArg some (decide_eq_true h))) (fun ξ => aR (aR (fQ (ds := [c.d]) rfl rfl h3) (b := .lit (.int 2000)) rfl (yi rfl)) (b := .var 1) rfl (sO (by lia) hw)) (fun q => ai q.symm)) rfl
 ·rw [if_neg h]
  exact aE.ret (x := .int 0) (nL (bU (a := .var 1) (b := .lit (.int 0)) rfl rfl rfl rfl (show b8 .Gt (.int c.wide) (.int 0) = some false from congrArg some (decide_eq_false h))) (fun q => ai q) (fun ξ => rfl)) rfl
end Ev
end
section
namespace Ev
open PySem
noncomputable def o6 (b : Bool) : aI := if b then .ret (.bool true) else .next
theorem sR {α : Type} {f : D → af → ae → Option (aI × af × ae)} {σ : ae} (enc : α → D) (p : α → Bool) (I : af → Prop) : ∀ {l : List α} {vs : af}, (∀ a ∈ l, ∀ vs, I vs → ∃ bj, f (enc a) vs σ = some (o6 (p a), bj, σ) ∧ I bj) → I vs → ∃ bj, cC f (l.map enc) vs σ = some (o6 (l.any p), bj, σ) ∧ I bj := @fun aa => @(match aa with
 | [] => @fun vs ξ i => ⟨vs, rfl, i⟩
 | a :: l => @fun vs hf i => by
  obtain ⟨cj, e, i1⟩ := hf a List.mem_cons_self vs i
  rw [show (a :: l).any p = (p a || l.any p) from rfl]
  cases hq : p a with
  | true =>
   rw [hq] at e
   exact ⟨cj, (eM (ds := l.map enc) e).trans rfl, i1⟩
  | false =>
   rw [hq] at e
   obtain ⟨mY, e2, i2⟩ := sR enc p I (l := l) (fun b hb => hf b (List.mem_cons_of_mem _ hb)) i1
   exact ⟨mY, (eM (ds := l.map enc) e).trans e2, i2⟩)
theorem GP {Δ : Dl} {n : Nat} {vars : af} {σ : ae} {a b : E} {t u : Bool} (h1 : aX Δ n a vars σ = some (t, σ)) (h2 : aX Δ n b vars σ = some (u, σ)) : aX Δ (n + 1) (.either a b) vars σ = some (t || u, σ) :=
 (aP (k := fun (t : Bool) (σ : ae) => if t then some (true, σ) else aX Δ n b vars σ) h1).trans (by
  cases t with
  | true => rfl
  | false => exact h2)
theorem Jf {Δ : Dl} {n : Nat} {vars : af} {σ σ1 : ae} {es : List E} {ds : List D} (h : bA Δ n es vars σ = some (ds, σ1)) (h1 : ds.length ≤ az) (h2 : ¬ ds.length ≤ 1) : ah Δ (n + 1) (.lst es) vars σ = some (.lst ds, σ1) :=
 (aP (k := lstK) h).trans ((if_pos h1).trans (if_neg h2))
theorem jI {Δ : Dl} {n : Nat} {vars : af} {σ σ1 : ae} {es : List E} {ds : List D} (h : bA Δ n es vars σ = some (ds, σ1)) (h1 : ds.length ≤ az) : ah Δ (n + 1) (.tup es) vars σ = some (.tup ds, σ1) :=
 (aP (k := tupK) h).trans (if_pos h1)
noncomputable def tp (s : Int × Int) : D := .tup [.int s.1, .int s.2]
noncomputable def aK (s t : Int × Int) : Int := s.1 * t.2 - s.2 * t.1
noncomputable def dot (s t : Int × Int) : Int := s.1 * t.1 + s.2 * t.2
noncomputable def rB (s : Int × Int) : Prop := small s.1 = true ∧ small s.2 = true
theorem IU {Δ : Dl} {s t : Int × Int} (h : rB s) : cM Δ 200 B4 [tp s, tp t] = some (.int (aK s t)) :=
 aE.run (aE.ret (x := .int (aK s t)) (aR (aR (a := .idx (.var 0) (.lit (.int 0))) (i := s.1) (b := .idx (.var 1) (.lit (.int 1))) (j := t.2) rfl rfl (fW h.1)) (aR (a := .idx (.var 0) (.lit (.int 1))) (i := s.2) (b := .idx (.var 1) (.lit (.int 0))) (j := t.1) rfl rfl (fW h.2)) rfl) rfl) rfl rfl rfl
noncomputable def vL : List S := [.asg [(.var 5)] (.lst [(.call 8 [(.idx (.var 0) (.var 1)), (.idx (.var 0) (.var 2))]), (.call 8 [(.idx (.var 0) (.var 2)), (.idx (.var 0) (.var 4))]), (.call 8 [(.idx (.var 0) (.var 4)), (.idx (.var 0) (.var 1))])]), .ite (.either (.cmp .Gt (.bi .min [(.var 5)]) (.lit (.int 0))) (.cmp .Lt (.bi .max [(.var 5)]) (.lit (.int 0)))) [.ret (.lit (.bool true))] []]
noncomputable def pH : List S := [.asg [(.var 3)] (.bin .Add (.bin .Mult (.idx (.idx (.var 0) (.var 1)) (.lit (.int 0))) (.idx (.idx (.var 0) (.var 2)) (.lit (.int 0)))) (.bin .Mult (.idx (.idx (.var 0) (.var 1)) (.lit (.int 1))) (.idx (.idx (.var 0) (.var 2)) (.lit (.int 1))))), .ite (.both (.cmp .Eq (.call 8 [(.idx (.var 0) (.var 1)), (.idx (.var 0) (.var 2))]) (.lit (.int 0))) (.cmp .LtE (.var 3) (.lit (.int 0)))) [.ret (.lit (.bool true))] [], .for (.var 4) (.range [(.var 2)]) vL]
noncomputable abbrev ev (S : List (Int × Int)) (x1 x2 x3 x4 x5 : Option D) : af := [some (.lst (S.map tp)), x1, x2, x3, x4, x5, none, none, none, none, none]
noncomputable def Bs (Δ : Dl) : D → af → ae → Option (aI × af × ae) := fun d vars σ => (cz (.var 4) d vars).bind fun vars => aJ Δ 192 vL vars σ
noncomputable def Br (Δ : Dl) : D → af → ae → Option (aI × af × ae) := fun d vars σ => (cz (.var 2) d vars).bind fun vars => aJ Δ 196 pH vars σ
noncomputable def Bq (Δ : Dl) : D → af → ae → Option (aI × af × ae) := fun d vars σ => (cz (.var 1) d vars).bind fun vars => aJ Δ 198 [.for (.var 2) (.range [(.bin .Add (.var 1) (.lit (.int 1)))]) pH] vars σ
noncomputable def gG (a b c : Int × Int) : Bool := decide (eO (eO (aK a b) (aK b c)) (aK c a) > 0) || decide (ff (ff (aK a b) (aK b c)) (aK c a) < 0)
noncomputable def gA (a b : Int × Int) : Bool := (aK a b == 0) && decide (dot a b ≤ 0)
section
variable {Δ : Dl} {S : List (Int × Int)}
structure ri (Δ : Dl) (S : List (Int × Int)) : Prop where
 near : ∀ s ∈ S, rB s
 len : S.length ≤ 100
 cross : ∀ s t, s ∈ S → Δ.fns 8 [tp s, tp t] = some (.int (aK s t))
theorem pn {i : Nat} {s : Int × Int} (h : S[i]? = some s) : (S.map tp)[(i : Int).toNat]? = some (tp s) := by rw [List.getElem?_map, Int.toNat_natCast, h]; rfl
theorem I8 (fC : ri Δ S) {i j k : Nat} {a b c : Int × Int} (hi : S[i]? = some a) (hj : S[j]? = some b) (hk : S[k]? = some c) {x3 x4 x5 : Option D} :
  ∃ y5, Bs Δ (.int k) (ev S (some (.int i)) (some (.int j)) x3 x4 x5) [] = some (o6 (gG a b c), ev S (some (.int i)) (some (.int j)) x3 (some (.int k)) y5, []) := by
 have bd : ∀ {q : Nat} {s : Int × Int}, S[q]? = some s → small (q : Int) = true := fun h => gW (Nat.le_trans (Nat.le_of_lt (Nat.lt_of_lt_of_le (List.getElem?_eq_some_iff.mp h).1 fC.len)) (by decide))
 have gi : ∀ n, ah Δ (n + 1 + 1) (.idx (.var 0) (.var 1)) (ev S (some (.int i)) (some (.int j)) x3 (some (.int k)) x5) [] = some (tp a, []) := fun n => bY (a := .var 0) (b := .var 1) (x := .lst (S.map tp)) rfl rfl rfl rfl (Int.natCast_nonneg i) (bd hi) (pn hi)
 have gj : ∀ n, ah Δ (n + 1 + 1) (.idx (.var 0) (.var 2)) (ev S (some (.int i)) (some (.int j)) x3 (some (.int k)) x5) [] = some (tp b, []) := fun n => bY (a := .var 0) (b := .var 2) (x := .lst (S.map tp)) rfl rfl rfl rfl (Int.natCast_nonneg j) (bd hj) (pn hj)
 have gk : ∀ n, ah Δ (n + 1 + 1) (.idx (.var 0) (.var 4)) (ev S (some (.int i)) (some (.int j)) x3 (some (.int k)) x5) [] = some (tp c, []) := fun n => bY (a := .var 0) (b := .var 4) (x := .lst (S.map tp)) rfl rfl rfl rfl (Int.natCast_nonneg k) (bd hk) (pn hk)
 have ma := List.mem_of_getElem? hi
 have mb := List.mem_of_getElem? hj
 have mc := List.mem_of_getElem? hk
 refine ⟨some (.lst [.int (aK a b), .int (aK b c), .int (aK c a)]), ?_⟩
 refine (bu (n := 191) (σ' := []) (vars' := ev S (some (.int i)) (some (.int j)) x3 (some (.int k)) (some (.lst [.int (aK a b), .int (aK b c), .int (aK c a)]))) (bR (d := .lst [.int (aK a b), .int (aK b c), .int (aK c a)]) (Jf (aN (fQ (ds := [tp a, tp b]) (aN (gi _) (aN (es := []) (gj _) rfl)) rfl (fC.cross a b ma)) (aN (fQ (ds := [tp b, tp c]) (aN (gj _) (aN (es := []) (gk _) rfl)) rfl (fC.cross b c mb)) (aN (es := []) (fQ (ds := [tp c, tp a]) (aN (gk _) (aN (es := []) (gi _) rfl)) rfl (fC.cross c a mc)) rfl))) (by decide : 3 ≤ az) (by decide : ¬ 3 ≤ 1)) rfl)).trans ?_
 have h1 : c9 .min [.lst [.int (aK a b), .int (aK b c), .int (aK c a)]] = some (.int (eO (eO (aK a b) (aK b c)) (aK c a))) := qB.trans qB
 have h2 : c9 .max [.lst [.int (aK a b), .int (aK b c), .int (aK c a)]] = some (.int (ff (ff (aK a b) (aK b c)) (aK c a))) := uf.trans uf
 have hc : aX Δ 189 (.either (.cmp .Gt (.bi .min [(.var 5)]) (.lit (.int 0))) (.cmp .Lt (.bi .max [(.var 5)]) (.lit (.int 0)))) (ev S (some (.int i)) (some (.int j)) x3 (some (.int k)) (some (.lst [.int (aK a b), .int (aK b c), .int (aK c a)]))) [] = some (gG a b c, []) :=
  GP (bU (dK (ds := [.lst [.int (aK a b), .int (aK b c), .int (aK c a)]]) rfl rfl h1 rfl rfl) (b := .lit (.int 0)) rfl rfl rfl rfl) (bU (dK (ds := [.lst [.int (aK a b), .int (aK b c), .int (aK c a)]]) rfl rfl h2 rfl rfl) (b := .lit (.int 0)) rfl rfl rfl rfl)
 cases hq : gG a b c with
 | true => rw [hq] at hc; exact gm (n := 190) (gO hc rfl)
 | false => rw [hq] at hc; exact cV (n := 189) (gM hc rfl)
noncomputable def at2 (S : List (Int × Int)) (q : Int) : Int × Int := S.getD q.toNat (0, 0)
theorem o8 {q : Nat} (h : q < S.length) : S[q]? = some (at2 S q) := by
 unfold at2
 rw [Int.toNat_natCast, List.getD_eq_getElem?_getD, List.getElem?_eq_getElem h]; rfl
theorem mJ {q : Int} (h : 0 ≤ q) : ∃ k : Nat, q = k := ⟨q.toNat, (Int.toNat_of_nonneg h).symm⟩
noncomputable def jJ (S : List (Int × Int)) (i j : Int) : Bool := gA (at2 S i) (at2 S j) || (intsFrom 0 j.toNat).any fun k => gG (at2 S i) (at2 S j) (at2 S k)
theorem I7 (fC : ri Δ S) {i j : Nat} (hi : i < S.length) (hj : j < S.length) {x2 x3 x4 x5 : Option D} :
  ∃ y3 y4 y5, Br Δ (.int j) (ev S (some (.int i)) x2 x3 x4 x5) [] = some (o6 (jJ S i j), ev S (some (.int i)) (some (.int j)) y3 y4 y5, []) := by
 have sm : ∀ {q : Nat}, q < S.length → small (q : Int) = true := fun h => gW (Nat.le_trans (Nat.le_of_lt (Nat.lt_of_lt_of_le h fC.len)) (by decide))
 have ei := o8 hi
 have ej := o8 hj
 have ma := List.mem_of_getElem? ei
 have mb := List.mem_of_getElem? ej
 have na := fC.near _ ma
 have gi : ∀ n y3, ah Δ (n + 1 + 1) (.idx (.var 0) (.var 1)) (ev S (some (.int i)) (some (.int j)) y3 x4 x5) [] = some (tp (at2 S i), []) := fun n y3 => bY (a := .var 0) (b := .var 1) (x := .lst (S.map tp)) rfl rfl rfl rfl (Int.natCast_nonneg i) (sm hi) (pn ei)
 have gj : ∀ n y3, ah Δ (n + 1 + 1) (.idx (.var 0) (.var 2)) (ev S (some (.int i)) (some (.int j)) y3 x4 x5) [] = some (tp (at2 S j), []) := fun n y3 => bY (a := .var 0) (b := .var 2) (x := .lst (S.map tp)) rfl rfl rfl rfl (Int.natCast_nonneg j) (sm hj) (pn ej)
 have hd : ah Δ 194 (.bin .Add (.bin .Mult (.idx (.idx (.var 0) (.var 1)) (.lit (.int 0))) (.idx (.idx (.var 0) (.var 2)) (.lit (.int 0)))) (.bin .Mult (.idx (.idx (.var 0) (.var 1)) (.lit (.int 1))) (.idx (.idx (.var 0) (.var 2)) (.lit (.int 1))))) (ev S (some (.int i)) (some (.int j)) x3 x4 x5) [] = some (.int (dot (at2 S i) (at2 S j)), []) :=
  aR (aR (i := (at2 S i).1) (j := (at2 S j).1) (bY (b := .lit (.int 0)) (k := 0) (gi _ _) rfl rfl rfl (Int.le_refl 0) rfl rfl) (bY (b := .lit (.int 0)) (k := 0) (gj _ _) rfl rfl rfl (Int.le_refl 0) rfl rfl) (fW na.1)) (aR (i := (at2 S i).2) (j := (at2 S j).2) (bY (b := .lit (.int 1)) (k := 1) (gi _ _) rfl rfl rfl (by decide) rfl rfl) (bY (b := .lit (.int 1)) (k := 1) (gj _ _) rfl rfl rfl (by decide) rfl rfl) (fW na.2)) rfl
 have hc : aX Δ 193 (.both (.cmp .Eq (.call 8 [(.idx (.var 0) (.var 1)), (.idx (.var 0) (.var 2))]) (.lit (.int 0))) (.cmp .LtE (.var 3) (.lit (.int 0)))) (ev S (some (.int i)) (some (.int j)) (some (.int (dot (at2 S i) (at2 S j)))) x4 x5) [] = some (gA (at2 S i) (at2 S j), []) :=
  zK (bU (fQ (ds := [tp (at2 S i), tp (at2 S j)]) (aN (gi _ _) (aN (es := []) (gj _ _) rfl)) rfl (fC.cross _ _ ma)) (b := .lit (.int 0)) rfl rfl rfl (jc (by decide : 0 ≤ 50) rfl)) (bU (a := .var 3) (b := .lit (.int 0)) rfl rfl rfl rfl rfl)
 have h1 := bu (n := 195) (ss := pH.tail) (σ' := []) (vars' := ev S (some (.int i)) (some (.int j)) (some (.int (dot (at2 S i) (at2 S j)))) x4 x5) (bR (i := 3) hd rfl)
 unfold jJ
 cases hq : gA (at2 S i) (at2 S j) with
 | true =>
  rw [hq] at hc
  exact ⟨_, _, _, h1.trans (gm (n := 194) (gO (a := [.ret (.lit (.bool true))]) (b := []) hc rfl))⟩
 | false =>
  rw [hq] at hc
  have hr := xQ (Δ := Δ) (n := 191) (e := .var 2) (vars := ev S (some (.int i)) (some (.int j)) (some (.int (dot (at2 S i) (at2 S j)))) x4 x5) (σ := []) (b := j) rfl (sm hj) (by rw [Int.toNat_natCast]; exact Nat.le_trans (Nat.le_of_lt (Nat.lt_of_lt_of_le hj fC.len)) (by decide))
  obtain ⟨bj, e, y4, y5, rfl⟩ := sR (f := Bs Δ) (σ := []) D.int (fun k => gG (at2 S i) (at2 S j) (at2 S k)) (fun vs => ∃ y4 y5, vs = ev S (some (.int i)) (some (.int j)) (some (.int (dot (at2 S i) (at2 S j)))) y4 y5) (l := intsFrom 0 (j : Int).toNat) (vs := ev S (some (.int i)) (some (.int j)) (some (.int (dot (at2 S i) (at2 S j)))) x4 x5) (fun q hq vs hv => by
   obtain ⟨z4, z5, rfl⟩ := hv
   have hm := iy.mp hq
   obtain ⟨k, rfl⟩ := mJ hm.1
   obtain ⟨y5, e⟩ := I8 fC ei ej (o8 (q := k) (by lia)) (x3 := some (.int (dot (at2 S i) (at2 S j)))) (x4 := z4) (x5 := z5)
   exact ⟨_, e, _, _, rfl⟩) ⟨_, _, rfl⟩
  have h2 := h1.trans (bu (n := 194) (gM (a := [.ret (.lit (.bool true))]) (b := []) hc rfl))
  have h3 : bK Δ 193 (.for (.var 4) (.range [(.var 2)]) vL) (ev S (some (.int i)) (some (.int j)) (some (.int (dot (at2 S i) (at2 S j)))) x4 x5) [] = _ := (gK hr).trans e
  rw [Bool.false_or]
  cases hz : (intsFrom 0 (j : Int).toNat).any fun k => gG (at2 S i) (at2 S j) (at2 S k) with
  | true => rw [hz] at h3; exact ⟨_, _, _, h2.trans (gm (n := 193) h3)⟩
  | false => rw [hz] at h3; exact ⟨_, _, _, h2.trans (cV (n := 192) h3)⟩
theorem I6 (fC : ri Δ S) {i : Nat} (hi : i < S.length) {x1 x2 x3 x4 x5 : Option D} :
  ∃ y2 y3 y4 y5, Bq Δ (.int i) (ev S x1 x2 x3 x4 x5) [] = some (o6 ((intsFrom 0 (i + 1)).any fun j => jJ S i j), ev S (some (.int i)) y2 y3 y4 y5, []) := by
 have hl := fC.len
 have hr := xQ (Δ := Δ) (n := 195) (e := .bin .Add (.var 1) (.lit (.int 1))) (vars := ev S (some (.int i)) x2 x3 x4 x5) (σ := []) (b := ((i + 1 : Nat) : Int)) rfl (gW (by lia)) (by rw [Int.toNat_natCast]; unfold az; lia)
 rw [Int.toNat_natCast] at hr
 obtain ⟨bj, e, y2, y3, y4, y5, rfl⟩ := sR (f := Br Δ) (σ := []) D.int (fun j => jJ S i j) (fun vs => ∃ y2 y3 y4 y5, vs = ev S (some (.int i)) y2 y3 y4 y5) (l := intsFrom 0 (i + 1)) (vs := ev S (some (.int i)) x2 x3 x4 x5) (fun q hq vs hv => by
  obtain ⟨z2, z3, z4, z5, rfl⟩ := hv
  have hm := iy.mp hq
  obtain ⟨k, rfl⟩ := mJ hm.1
  obtain ⟨y3, y4, y5, e⟩ := I7 fC hi (j := k) (by lia) (x2 := z2) (x3 := z3) (x4 := z4) (x5 := z5)
  exact ⟨_, e, _, _, _, _, rfl⟩) ⟨_, _, _, _, rfl⟩
 have h3 : bK Δ 197 (.for (.var 2) (.range [(.bin .Add (.var 1) (.lit (.int 1)))]) pH) (ev S (some (.int i)) x2 x3 x4 x5) [] = _ := (gK hr).trans e
 cases hz : (intsFrom 0 (i + 1)).any fun j => jJ S i j with
 | true => rw [hz] at h3; exact ⟨_, _, _, _, gm (n := 197) h3⟩
 | false => rw [hz] at h3; exact ⟨_, _, _, _, cV (n := 196) h3⟩
noncomputable def gh (S : List (Int × Int)) : Bool := (intsFrom 0 S.length).any fun i => (intsFrom 0 (i.toNat + 1)).any fun j => jJ S i j
theorem GN (S : List (Int × Int)) : D.aL [.lst (S.map tp)] = true := by
 show (D.aL (S.map tp) && true) = true
 rw [gC tp (fun ξ => rfl)]; rfl
theorem Js (fC : ri Δ S) : cM Δ 200 B5 [.lst (S.map tp)] = some (.bool (gh S)) := by
 have hl : S.length ≤ az := Nat.le_trans fC.len (by decide)
 have hr := xQ (Δ := Δ) (n := 197) (e := .bi .len [(.var 0)]) (vars := ev S none none none none none) (σ := []) (b := (S.length : Int)) (aN (es := []) (vZ (a := .var 0) (enc := tp) rfl hl) rfl) (gW (Nat.le_trans fC.len (by decide))) (by rw [Int.toNat_natCast]; exact hl)
 rw [Int.toNat_natCast] at hr
 obtain ⟨bj, e, y1, y2, y3, y4, y5, rfl⟩ := sR (f := Bq Δ) (σ := []) D.int (fun i => (intsFrom 0 (i.toNat + 1)).any fun j => jJ S i j) (fun vs => ∃ y1 y2 y3 y4 y5, vs = ev S y1 y2 y3 y4 y5) (l := intsFrom 0 S.length) (vs := ev S none none none none none) (fun q hq vs hv => by
  obtain ⟨z1, z2, z3, z4, z5, rfl⟩ := hv
  have hm := iy.mp hq
  obtain ⟨k, rfl⟩ := mJ hm.1
  obtain ⟨y2, y3, y4, y5, e⟩ := I6 fC (i := k) (by lia) (x1 := z1) (x2 := z2) (x3 := z3) (x4 := z4) (x5 := z5)
  exact ⟨_, e, _, _, _, _, _, rfl⟩) ⟨_, _, _, _, _, rfl⟩
 refine aE.run ?_ rfl (GN S) rfl
 have h3 : bK Δ 199 (.for (.var 1) (.range [(.bi .len [(.var 0)])]) [.for (.var 2) (.range [(.bin .Add (.var 1) (.lit (.int 1)))]) pH]) (ev S none none none none none) [] = _ := (gK hr).trans e
 unfold gh
 cases hz : (intsFrom 0 S.length).any fun i => (intsFrom 0 (i.toNat + 1)).any fun j => jJ S i j with
 | true => rw [hz] at h3; exact ⟨_, _, gm h3⟩
 | false => rw [hz] at h3; exact aE.step h3 (aE.ret (x := .bool false) rfl rfl)
end
end Ev
end
section
namespace Ev
open PySem
noncomputable abbrev nC : UInt64 := 4634204016564240384
noncomputable def aF (x : Int) : UInt64 := Float64.div (Float64.ofInt x) nC
theorem vK {x : Int} (h : eX x = true) : dH .Div (.int x) (.flt nC) = some (.flt (aF x)) := if_neg (by rw [h, show Float64.isZero nC = false by decide +kernel]; decide)
theorem O2 {Δ : Dl} (aH : Δ.aH = true) {r g b mx mn : UInt64} (wX : c9 .max [.flt r, .flt g, .flt b] = some (.flt mx)) (wY : c9 .min [.flt r, .flt g, .flt b] = some (.flt mn)) (h2 : dR mn mx = some true) : cM Δ 200 sS [.flt r, .flt g, .flt b] = some (.tup [.flt 0, .flt 0, .flt mx]) :=
 aE.run (aE.asg (x := .flt mx) (dK (ds := [.flt r, .flt g, .flt b]) rfl rfl wX rfl rfl) rfl
  (aE.asg (x := .flt mn) (dK (ds := [.flt r, .flt g, .flt b]) rfl rfl wY rfl rfl) rfl
  (aE.asg (cR (a := .var 3) (b := .var 4) aH rfl rfl rfl rfl rfl rfl) rfl
  (aE.asg (e := .var 3) rfl rfl
  (aE.n5 (bU (a := .var 4) (b := .var 3) rfl rfl rfl rfl (show b8 .Eq (.flt mn) (.flt mx) = some true from h2))
  (aE.ret (x := .tup [.flt 0, .flt 0, .flt mx]) (jI (aN (gf aH) (aN (gf aH) (aN (a := .var 6) rfl rfl))) (by decide : 3 ≤ az)) rfl)))))) rfl rfl rfl
theorem NL {Δ : Dl} (aH : Δ.aH = true) {w0 w1 w2 : List (Nat × D)} {c : aD} {size : Int} {h s v : UInt64} (p0 : D.bF w0 = true) (p1 : D.bF w1 = true) (p2 : D.bF w2 = true)
  (e0 : Δ.fns 101 [.inst w0, .int size] = some (.int c.r)) (e1 : Δ.fns 101 [.inst w1, .int size] = some (.int c.g)) (e2 : Δ.fns 101 [.inst w2, .int size] = some (.int c.b))
  (b0 : eX c.r = true) (b1 : eX c.g = true) (b2 : eX c.b = true) (hc : Δ.fns 0 [.flt (aF c.r), .flt (aF c.g), .flt (aF c.b)] = some (.tup [.flt h, .flt s, .flt v])) :
  cM Δ 200 we [.lst [.inst w0, .inst w1, .inst w2], .int size] = some (.tup [.flt h, .int size, .flt s, .flt v]) := by
 have pa : D.aL [.lst [.inst w0, .inst w1, .inst w2], .int size] = true := by
  show ((D.bF w0 && (D.bF w1 && (D.bF w2 && true))) && (true && true)) = true
  rw [p0, p1, p2]; rfl
 have el : ∀ (w : List (Nat × D)) (i : Int), D.bF w = true → Δ.fns 101 [.inst w, .int size] = some (.int i) → eX i = true → ah Δ 197 (.bin .Div (.bW 101 (.var 1) [(.var 2)]) (.lit (.flt nC))) [none, some (.inst w), some (.int size)] [] = some (.flt (aF i), []) := fun w i hp he hb =>
  cR aH (x := .int i) (y := .flt nC) (iz (o := .var 1) (ds := [.int size]) rfl rfl (uo hp rfl) he) (gf aH) rfl rfl rfl (vK hb)
 have e := fR (Δ := Δ) (n := 196) (vars := cZ we [.lst [.inst w0, .inst w1, .inst w2], .int size]) (σ := []) (aq := [none, none, some 1]) (elt := .bin .Div (.bW 101 (.var 1) [(.var 2)]) (.lit (.flt nC))) (t := .var 1) (it := .var 0) (l := [(w0, c.r), (w1, c.g), (w2, c.b)]) (fun p => .inst p.1) (fun p => .flt (aF p.2)) (fun vs => ∃ x, vs = [none, x, some (.int size)]) rfl rfl (by decide : 3 ≤ az) (by
  rintro p hp vs ⟨x, rfl⟩
  refine ⟨[none, some (.inst p.1), some (.int size)], rfl, ⟨_, rfl⟩, ?_⟩
  rcases List.mem_cons.mp hp with rfl | hp
  ·exact el w0 c.r p0 e0 b0
  ·rcases List.mem_cons.mp hp with rfl | hp
   ·exact el w1 c.g p1 e1 b1
   ·rw [List.mem_singleton.mp hp]; exact el w2 c.b p2 e2 b2) ⟨none, rfl⟩
 exact aE.run (aE.lF (vars' := [some (.lst [.inst w0, .inst w1, .inst w2]), some (.int size), some (.flt (aF c.r)), some (.flt (aF c.g)), some (.flt (aF c.b)), none, none, none, none]) e rfl (aE.lF (vars' := [some (.lst [.inst w0, .inst w1, .inst w2]), some (.int size), some (.flt (aF c.r)), some (.flt (aF c.g)), some (.flt (aF c.b)), some (.flt h), some (.flt s), some (.flt v), none]) (fQ (ds := [.flt (aF c.r), .flt (aF c.g), .flt (aF c.b)]) rfl rfl hc) rfl (aE.ret (x := .tup [.flt h, .int size, .flt s, .flt v]) rfl rfl))) rfl pa rfl
noncomputable def iG (P W : Int) (k : Int) : Int := if W > 0 then (P - 2 * k * W).fmod (6 * W) else 0
noncomputable def way (P W : Int) (k : Int) : Int := eO (iG P W k) (6 * W - iG P W k)
noncomputable def QX : List S := [.asg [(.var 8)] (.ite (.cmp .Gt (.var 5) (.lit (.int 0))) (.bin .Mod (.bin .Sub (.bi .round [(.bin .Mult (.bin .Mult (.lit (.int 6)) (.var 5)) (.var 1))]) (.bin .Mult (.bin .Mult (.lit (.int 2)) (.var 7)) (.var 5))) (.bin .Mult (.lit (.int 6)) (.var 5))) (.lit (.int 0))), .expr (.append (.var 6) (.bi .min [(.var 8), (.bin .Sub (.bin .Mult (.lit (.int 6)) (.var 5)) (.var 8))]))]
noncomputable abbrev qU (h s v : UInt64) (size W : Int) (x7 x8 : Option D) : af := [some (.tup [.flt h, .int size, .flt s, .flt v]), some (.flt h), some (.int size), some (.flt s), some (.flt v), some (.int W), some (.loc 0), x7, x8, none, none, none]
noncomputable def QY (Δ : Dl) : D → af → ae → Option (aI × af × ae) := fun d vars σ => (cz (.var 7) d vars).bind fun vars => aJ Δ 195 QX vars σ
structure Al (h : UInt64) (W P : Int) : Prop where
 ok : W > 0 → ∃ o, dH .Mult (.int (6 * W)) (.flt h) = some (.flt o) ∧ fh o = some P
theorem zX {Δ : Dl} (aH : Δ.aH = true) {h s v : UInt64} {size W P k : Int} {x7 x8 : Option D} {xs : List D} (hr : Al h W P) (sW : small W = true) (hx : xs.length < az) :
  QY Δ (.int k) (qU h s v size W x7 x8) [some (.lst xs)] = some (.next, qU h s v size W (some (.int k)) (some (.int (iG P W k))), [some (.lst (xs ++ [.int (way P W k)]))]) := by
 have e8 : ah Δ 193 (.ite (.cmp .Gt (.var 5) (.lit (.int 0))) (.bin .Mod (.bin .Sub (.bi .round [(.bin .Mult (.bin .Mult (.lit (.int 6)) (.var 5)) (.var 1))]) (.bin .Mult (.bin .Mult (.lit (.int 2)) (.var 7)) (.var 5))) (.bin .Mult (.lit (.int 6)) (.var 5))) (.lit (.int 0))) (qU h s v size W (some (.int k)) x8) [some (.lst xs)] = some (.int (iG P W k), [some (.lst xs)]) := by
  unfold iG
  by_cases hW : W > 0
  ·obtain ⟨o, q1, q2⟩ := hr.ok hW
   rw [if_pos hW]
   exact nL (bU (a := .var 5) (b := .lit (.int 0)) rfl rfl rfl rfl (show b8 .Gt (.int W) (.int 0) = some true from congrArg some (decide_eq_true hW))) (fun ξ => aR (aR (i := P) (dK (ds := [.flt o]) (aN (es := []) (cR aH (x := .int (6 * W)) (aR (a := .lit (.int 6)) (b := .var 5) rfl rfl (fW rfl)) (b := .var 1) rfl rfl rfl rfl q1) rfl) rfl (by show (fh o).map _ = _; rw [q2]; rfl) rfl rfl) (aR (aR (a := .lit (.int 2)) (b := .var 7) rfl rfl (fW rfl)) (b := .var 5) rfl (yi sW)) rfl) (aR (a := .lit (.int 6)) (b := .var 5) rfl rfl (fW rfl)) (t6 (by lia))) (fun q => ai q.symm)
  ·rw [if_neg hW]
   exact nL (bU (a := .var 5) (b := .lit (.int 0)) rfl rfl rfl rfl (show b8 .Gt (.int W) (.int 0) = some false from congrArg some (decide_eq_false hW))) (fun q => ai q) (fun ξ => rfl)
 have hm : c9 .min [.int (iG P W k), .int (6 * W - iG P W k)] = some (.int (way P W k)) := qB
 exact (bu (n := 194) (vars' := qU h s v size W (some (.int k)) (some (.int (iG P W k)))) (bR (i := 8) e8 rfl)).trans (cV (lP (vW (l := 0) (o := .var 6) (σ2 := [some (.lst xs)]) rfl rfl (dK (b := .min) (ds := [.int (iG P W k), .int (6 * W - iG P W k)]) (aN (a := .var 8) rfl (aN (es := []) (aR (aR (a := .lit (.int 6)) (b := .var 5) rfl rfl (fW rfl)) (b := .var 8) rfl rfl) rfl)) rfl hm rfl rfl) rfl hx)))
theorem QU {Δ : Dl} (aH : Δ.aH = true) {h s v k l : UInt64} {size W P : Int} (e2 : dH .Mult (.int 64) (.flt s) = some (.flt k)) (e3 : dH .Mult (.flt k) (.flt v) = some (.flt l)) (e4 : fh l = some W) (hr : Al h W P) (sW : small W = true) : cM Δ 200 Ca [.tup [.flt h, .int size, .flt s, .flt v]] = some (.lst [.int (way P W 0), .int (way P W 1), .int (way P W 2)]) := by
 have t0 := zX (Δ := Δ) (s := s) (v := v) (size := size) (k := 0) (x7 := none) (x8 := none) (xs := []) aH hr sW (by decide : 0 < az)
 have t1 := zX (Δ := Δ) (s := s) (v := v) (size := size) (k := 1) (x7 := some (.int 0)) (x8 := some (.int (iG P W 0))) (xs := [.int (way P W 0)]) aH hr sW (by decide : 1 < az)
 have t2 := zX (Δ := Δ) (s := s) (v := v) (size := size) (k := 2) (x7 := some (.int 1)) (x8 := some (.int (iG P W 1))) (xs := [.int (way P W 0), .int (way P W 1)]) aH hr sW (by decide : 2 < az)
 have hf := (eM (ds := [.int 1, .int 2]) t0).trans ((eM (ds := [.int 2]) t1).trans ((eM (ds := []) t2).trans rfl))
 refine aE.run (aE.lF (vars' := [some (.tup [.flt h, .int size, .flt s, .flt v]), some (.flt h), some (.int size), some (.flt s), some (.flt v), none, none, none, none, none, none, none]) (e := .var 0) (x := .tup [.flt h, .int size, .flt s, .flt v]) rfl rfl (aE.asg (vars' := [some (.tup [.flt h, .int size, .flt s, .flt v]), some (.flt h), some (.int size), some (.flt s), some (.flt v), some (.int W), none, none, none, none, none, none]) (dK (ds := [.flt l]) (aN (es := []) (cR (b := .var 4) aH (cR (a := .lit (.int 64)) (b := .var 3) aH rfl rfl rfl rfl rfl e2) rfl rfl rfl rfl e3) rfl) rfl (by show (fh l).map _ = _; rw [e4]; rfl) rfl rfl) rfl (aE.step (vars' := qU h s v size W none none) (σ' := [some (.lst [])]) (bR (d := .loc 0) rfl rfl) (aE.step ((gK (ds := [.int 0, .int 1, .int 2]) (σ1 := [some (.lst [])]) rfl).trans hf) (aE.FJ (e := .var 6) rfl rfl))))) rfl rfl rfl
end Ev
end
section
namespace Ev
open PySem
noncomputable def LL : Int := 80313433200
noncomputable def fr (a W : Int) : UInt64 := Float64.div (aF a) (aF W)
noncomputable abbrev frac (a W : Int) : UInt64 := Float64.ofFrac (decide (a < 0) != decide (W < 0)) a.natAbs W.natAbs
noncomputable abbrev D3 := Int × Int × Int
noncomputable def jF (P W : Int) : D3 :=
 if P ≤ W then (0, W - P, W) else if P ≤ 2 * W then (P - W, 0, W) else if P ≤ 3 * W then (W, 0, 3 * W - P) else if P ≤ 4 * W then (W, P - 3 * W, 0) else if P ≤ 5 * W then (5 * W - P, W, 0) else (0, W, P - 5 * W)
noncomputable def nX (d : D3) (W : Int) : UInt64 := nW (sel (d.1 == 0) (Float64.sub (frac d.2.2 W) (frac d.2.1 W)) (sel (d.2.1 == 0) (Float64.sub (Float64.add 4611686018427387904 (frac d.1 W)) (frac d.2.2 W)) (Float64.sub (Float64.add 4616189618054758400 (frac d.2.1 W)) (frac d.1 W))))
noncomputable def gu (P W : Int) : UInt64 := nX (jF P W) W
noncomputable def gc (a b : Int) : Int := (Nat.gcd a.natAbs b.natAbs : Nat)
noncomputable def tw (p : Int) : UInt64 := gu (p / gc p LL) (LL / gc p LL)
noncomputable def cE (x : UInt64) : Bool := match Float64.decode x with
 | .fin _ _ _ => true
 | _ => false
noncomputable def SS : Int := Int.ofNat (2 ^ 1074)
noncomputable def yj (h : UInt64) (p : Int) : Bool := cE h && (decide (256 * (p * SS) - SS ≤ 256 * (6 * LL * Float64.val h)) && decide (256 * (6 * LL * Float64.val h) ≤ 256 * (p * SS) + SS))
noncomputable def kH {α : Type} [BEq α] (i : α) : Option α → Bool := @fun aa => match aa with
 | some j => j == i
 | none => false
noncomputable abbrev uz : List Int := [0, 1, 2, 3, 4, 5, 6, 7, 8, 9, 10]
noncomputable abbrev uA : List Int := [11, 12, 13, 14, 15]
noncomputable abbrev uB : List Int := [16, 17, 18, 19]
noncomputable abbrev uC : List Int := [20, 21, 22]
noncomputable abbrev uD : List Int := [23, 24, 25]
noncomputable abbrev uE : List Int := [26, 27]
noncomputable def bz : List Int := [0, 1, 2, 3, 4, 5, 6, 7, 8, 9, 10, 11, 12, 13, 14, 15, 16, 17, 18, 19, 20, 21, 22, 23, 24, 25, 26, 27]
noncomputable def kF : List Int := [0, 1, 2, 3, 4, 5, 6, 7, 8, 9, 10, 11, 12, 13, 14, 15, 16, 17, 18, 19, 20, 21, 22, 23, 24, 25, 26, 27, 28, 29, 30, 31, 32, 33, 34, 35, 36, 37, 38, 39, 40, 41, 42, 43, 44, 45, 46, 47, 48, 49, 50, 51, 52, 53, 54, 55, 56, 57, 58, 59, 60, 61, 62, 63, 64, 65, 66, 67, 68, 69, 70, 71, 72, 73, 74, 75, 76, 77, 78, 79, 80, 81, 82, 83, 84, 85, 86, 87, 88, 89, 90, 91, 92, 93, 94, 95, 96, 97, 98, 99, 100, 101, 102, 103, 104, 105, 106, 107, 108, 109, 110, 111, 112, 113, 114, 115, 116, 117, 118, 119, 120, 121, 122, 123, 124, 125, 126, 127, 128, 129, 130, 131, 132, 133, 134, 135, 136, 137, 138, 139, 140, 141, 142, 143, 144, 145, 146, 147, 148, 149, 150, 151, 152, 153, 154, 155, 156, 157, 158, 159, 160, 161]
theorem Dg {f : Int → Bool} (h0 : uz.all f = true) (h1 : uA.all f = true) (h2 : uB.all f = true) (h3 : uC.all f = true) (h4 : uD.all f = true) (h5 : uE.all f = true) {W : Int} (h : W ∈ bz) : f W = true := by
 have e : (uz ++ (uA ++ (uB ++ (uC ++ (uD ++ uE))))).all f = true := by rw [List.all_append, List.all_append, List.all_append, List.all_append, List.all_append, h0, h1, h2, h3, h4, h5]; rfl
 exact List.all_eq_true.mp e W h
noncomputable def C5 (P W : Int) (h : UInt64) : Bool := yj h (P * (LL / W)) && bz.all fun k => decide (k * W > 27) || k == 0 || kH (P * k) (fh (Float64.mul (Float64.ofInt (6 * (W * k))) h))
noncomputable def Ga (g : Int) (d : D3) : D3 := (d.1 * g, d.2.1 * g, d.2.2 * g)
noncomputable def tE (W : Int) (a : Int) : Bool := decide (0 ≤ a) && decide (a ≤ W)
noncomputable def FF (P W g P' W' : Int) : Bool := ((P' * g == P && (W' * g == W && (decide (0 < g) && decide (g ≤ 27)))) && (decide (0 < W') && (decide (W' ≤ 27) && (decide (0 ≤ P') && decide (P' < 6 * W'))))) && (((P * (LL / W) == P' * (LL / W') && LL / W * W == LL) && (P * (LL / W) / gc (P * (LL / W)) LL == P' && LL / gc (P * (LL / W)) LL == W')) && ((jF P W == Ga g (jF P' W') && gc P' W' == 1) && (tE W' (jF P' W').1 && (tE W' (jF P' W').2.1 && tE W' (jF P' W').2.2))))
noncomputable def l9 (W P : Int) : Bool := decide (6 * W ≤ P) || (FF P W (gc P W) (P / gc P W) (W / gc P W) && (gc P W != 1 || C5 P W (gu P W)))
theorem Lo : (uz.all fun W => kF.all fun P => l9 W P) = true := by decide +kernel
theorem Lp : (uA.all fun W => kF.all fun P => l9 W P) = true := by decide +kernel
theorem Lq : (uB.all fun W => kF.all fun P => l9 W P) = true := by decide +kernel
theorem Lr : (uC.all fun W => kF.all fun P => l9 W P) = true := by decide +kernel
theorem Ls : (uD.all fun W => kF.all fun P => l9 W P) = true := by decide +kernel
theorem Lu : (uE.all fun W => kF.all fun P => l9 W P) = true := by decide +kernel
theorem Ln {W : Int} (h : W ∈ bz) : (kF.all fun P => l9 W P) = true := Dg Lo Lp Lq Lr Ls Lu h
noncomputable def JN (a W : Int) (s : UInt64) : Bool := ((fr a W == s) && bz.all fun k => decide (W * k > 27) || k == 0 || (frac (a * k) (W * k) == s && ((a * k == 0) == (a == 0)))) && ((ik s 0 == decide (0 < a) && kH true (dR s s)) && kH a (fh (Float64.mul (Float64.mul (Float64.ofInt 64) s) (aF W))))
noncomputable def JM (W a : Int) : Bool := W == 0 || decide (W < a) || JN a W (frac a W)
theorem JO : (bz.all fun W => bz.all fun a => JM W a) = true := by decide +kernel
noncomputable def Qd (M x : Int) : Bool := (decide (M < x) || Float64.sub (aF M) (aF x) == aF (M - x)) && (kH (M == x) (dR (aF M) (aF x)) && (kH (decide (M < x)) (nM (aF M) (aF x)) && (ik (aF M) (aF x) == decide (M > x))))
theorem Qe : (bz.all fun M => bz.all fun x => Qd M x) = true := by decide +kernel
noncomputable def Q0 (x : Int) : Bool := (Float64.isZero (aF x) == (x == 0)) && (eX x && eX (6 * x)) && kH (0 : Int) (fh (Float64.mul (Float64.mul (Float64.ofInt 64) 0) (aF x)))
theorem Q2 : (bz.all Q0) = true := by decide +kernel
noncomputable def oK (k : Nat) (t W : Int) : Int := match k with
 | 0 => t
 | 1 => 2 * W - t
 | 2 => 2 * W + t
 | 3 => 4 * W - t
 | 4 => 4 * W + t
 | _ => 6 * W - t
noncomputable def ux (k : Nat) (t W : Int) : D3 := match k with
 | 0 => (0, W - t, W)
 | 1 => (W - t, 0, W)
 | 2 => (W, 0, W - t)
 | 3 => (W, W - t, 0)
 | 4 => (W - t, W, 0)
 | _ => (0, W, W - t)
noncomputable def o9 (d : D3) (k : Nat) : Int := match k with
 | 0 => d.1
 | 1 => d.2.1
 | _ => d.2.2
noncomputable def G1 (P W : Int) (d : D3) : Bool := [0, 1, 2].all fun i => [0, 1, 2].all fun j => (decide (way P W (j : Nat) < way P W (i : Nat)) == decide (o9 d j < o9 d i)) && ((way P W (j : Nat) == way P W (i : Nat)) == (o9 d j == o9 d i))
noncomputable def vec (Q W : Int) : Int × Int := if Q ≤ W then (W, Q) else if Q ≤ 2 * W then (2 * W - Q, W) else (2 * W - Q, 3 * W - Q)
noncomputable def stepOk (P W : Int) (d : D3) : Bool := if P < 3 * W then (d.2.2 - d.1, d.2.2 - d.2.1) == vec P W else (d.1 - d.2.2, d.2.1 - d.2.2) == vec (P - 3 * W) W
noncomputable def mQ (W : Int) (k : Nat) (t : Int) : Bool := W == 0 || decide (W < t) || (k == 5 && t == 0) || ((jF (oK k t W) W == ux k t W && (decide (0 ≤ oK k t W) && decide (oK k t W < 6 * W))) && (G1 (oK k t W) W (ux k t W) && stepOk (oK k t W) W (ux k t W)))
theorem Pz : (uz.all fun W => [0, 1, 2, 3, 4, 5].all fun k => bz.all fun t => mQ W k t) = true := by decide +kernel
theorem PA : (uA.all fun W => [0, 1, 2, 3, 4, 5].all fun k => bz.all fun t => mQ W k t) = true := by decide +kernel
theorem PB : (uB.all fun W => [0, 1, 2, 3, 4, 5].all fun k => bz.all fun t => mQ W k t) = true := by decide +kernel
theorem PC : (uC.all fun W => [0, 1, 2, 3, 4, 5].all fun k => bz.all fun t => mQ W k t) = true := by decide +kernel
theorem PD : (uD.all fun W => [0, 1, 2, 3, 4, 5].all fun k => bz.all fun t => mQ W k t) = true := by decide +kernel
theorem PE : (uE.all fun W => [0, 1, 2, 3, 4, 5].all fun k => bz.all fun t => mQ W k t) = true := by decide +kernel
theorem Py {W : Int} (h : W ∈ bz) : ([0, 1, 2, 3, 4, 5].all fun k => bz.all fun t => mQ W k t) = true := Dg Pz PA PB PC PD PE h
end Ev
end
section
namespace Ev
open PySem
theorem qt (a b : Int) : eO a b ≤ a ∧ eO a b ≤ b ∧ (eO a b = a ∨ eO a b = b) := by
 unfold eO
 by_cases h : b < a
 ·rw [if_pos h]; exact ⟨Int.le_of_lt h, Int.le_refl b, .inr rfl⟩
 ·rw [if_neg h]; exact ⟨Int.le_refl a, Int.not_lt.mp h, .inl rfl⟩
theorem qu (a b : Int) : a ≤ ff a b ∧ b ≤ ff a b ∧ (ff a b = a ∨ ff a b = b) := by
 unfold ff
 by_cases h : a < b
 ·rw [if_pos h]; exact ⟨Int.le_of_lt h, Int.le_refl b, .inr rfl⟩
 ·rw [if_neg h]; exact ⟨Int.le_refl a, Int.not_lt.mp h, .inl rfl⟩
structure Ah (x a b c : Int) (le : Int → Int → Prop) : Prop where
 pa : le x a
 pb : le x b
 pc : le x c
 is : x = a ∨ x = b ∨ x = c
theorem or3 {x y a b c : Int} (h1 : y = a ∨ y = b) (h2 : x = y ∨ x = c) : x = a ∨ x = b ∨ x = c := h2.elim (fun e => h1.elim (fun q => .inl (e.trans q)) (fun q => .inr (.inl (e.trans q)))) (fun e => .inr (.inr e))
theorem kK (c : aD) : Ah c.low c.r c.g c.b (· ≤ ·) :=
 let h1 := qt c.r c.g
 let h2 := qt (eO c.r c.g) c.b
 ⟨Int.le_trans h2.1 h1.1, Int.le_trans h2.1 h1.2.1, h2.2.1, or3 h1.2.2 h2.2.2⟩
theorem kZ (c : aD) : Ah c.top c.r c.g c.b (fun x a => a ≤ x) :=
 let h1 := qu c.r c.g
 let h2 := qu (ff c.r c.g) c.b
 ⟨Int.le_trans h1.1 h2.1, Int.le_trans h1.2.1 h2.1, h2.2.1, or3 h1.2.2 h2.2.2⟩
theorem yD {p q r : Prop} (h : p ∨ q ∨ r) : q ∨ p ∨ r := h.elim (fun h => .inr (.inl h)) fun h => h.elim .inl fun h => .inr (.inr h)
theorem E8 {p q r : Prop} (h : p ∨ q ∨ r) : r ∨ p ∨ q := h.elim (fun h => .inr (.inl h)) fun h => h.elim (fun h => .inr (.inr h)) .inl
theorem ou {a b c M : Int} (h : a ≤ M) (hb : b ≤ a) (hc : c ≤ a) (h' : M = a ∨ M = b ∨ M = c) : M = a := by lia
theorem NG {a b c m : Int} (h : m ≤ a) (hb : m ≠ b) (hc : m ≠ c) (h' : m = a ∨ m = b ∨ m = c) : m = a := by lia
theorem Ip (M m g : Int) : M - m - (g - m) = M - g := by lia
structure Hv (c : aD) (k : Nat) (t : Int) : Prop where
 k6 : k ∈ [0, 1, 2, 3, 4, 5]
 t0 : 0 ≤ t
 t1 : t ≤ c.wide
 no : (k == 5 && t == 0) = false
 p : c.place = oK k t c.wide
 d : ux k t c.wide = (c.top - c.r, c.top - c.g, c.top - c.b)
theorem D3.ext {a b c a' b' c' : Int} (h1 : a = a') (h2 : b = b') (h3 : c = c') : ((a, b, c) : D3) = (a', b', c') := by rw [h1, h2, h3]
theorem PF (c : aD) : ∃ k t, Hv c k t := by
 have l := kK c
 have u := kZ c
 have sm : ∀ {a : Int}, a ≤ c.top → a - c.low ≤ c.wide := fun h => Int.sub_le_sub_right h _
 have w0 : ∀ {x y : Int}, c.top = x → c.low = y → x - y = c.wide := fun e1 e2 => by rw [← e1, ← e2]; rfl
 have z : ∀ {x : Int}, c.top = x → 0 = c.top - x := fun e => by rw [e, Int.sub_self]
 have b : ∀ {x : Int}, c.low = x → c.wide = c.top - x := fun e => by rw [← e]; rfl
 have e : ∀ x : Int, c.wide - (x - c.low) = c.top - x := fun x => Ip c.top c.low x
 by_cases e1 : c.b = c.low
 ·by_cases e2 : c.r ≥ c.g
  ·refine ⟨0, c.g - c.low, by decide, Int.sub_nonneg_of_le l.pb, sm u.pb, rfl, by unfold aD.place; rw [if_pos (beq_iff_eq.mpr e1), if_pos e2]; rfl, ?_⟩
   exact D3.ext (z (ou u.pa e2 (e1 ▸ l.pa) u.is)) (e _) (b e1.symm)
  ·have q := Int.le_of_lt (Int.not_le.mp e2)
   refine ⟨1, c.r - c.low, by decide, Int.sub_nonneg_of_le l.pa, sm u.pa, rfl, by unfold aD.place; rw [if_pos (beq_iff_eq.mpr e1), if_neg e2]; rfl, ?_⟩
   exact D3.ext (e _) (z (ou u.pb q (e1 ▸ l.pb) (yD u.is))) (b e1.symm)
 ·have n1 : ¬ (c.b == c.low) = true := fun h => e1 (beq_iff_eq.mp h)
  by_cases e3 : c.r = c.low
  ·by_cases e2 : c.g ≥ c.b
   ·refine ⟨2, c.b - c.low, by decide, Int.sub_nonneg_of_le l.pc, sm u.pc, rfl, by unfold aD.place; rw [if_neg n1, if_pos (beq_iff_eq.mpr e3), if_pos e2]; exact Int.add_sub_assoc _ _ _, ?_⟩
    exact D3.ext (b e3.symm) (z (ou u.pb (e3 ▸ l.pb) e2 (yD u.is))) (e _)
   ·have q := Int.le_of_lt (Int.not_le.mp e2)
    refine ⟨3, c.g - c.low, by decide, Int.sub_nonneg_of_le l.pb, sm u.pb, rfl, by unfold aD.place; rw [if_neg n1, if_pos (beq_iff_eq.mpr e3), if_neg e2]; rfl, ?_⟩
    exact D3.ext (b e3.symm) (e _) (z (ou u.pc (e3 ▸ l.pc) q (E8 u.is)))
  ·have n3 : ¬ (c.r == c.low) = true := fun h => e3 (beq_iff_eq.mp h)
   have hg : c.low = c.g := NG l.pb (fun h => e3 h.symm) (fun h => e1 h.symm) (yD l.is)
   by_cases e2 : c.b ≥ c.r
   ·refine ⟨4, c.r - c.low, by decide, Int.sub_nonneg_of_le l.pa, sm u.pa, rfl, by unfold aD.place; rw [if_neg n1, if_neg n3, if_pos e2]; exact Int.add_sub_assoc _ _ _, ?_⟩
    exact D3.ext (e _) (b hg) (z (ou u.pc e2 (hg ▸ l.pc) (E8 u.is)))
   ·have q := Int.le_of_lt (Int.not_le.mp e2)
    refine ⟨5, c.b - c.low, by decide, Int.sub_nonneg_of_le l.pc, sm u.pc, ?_, by unfold aD.place; rw [if_neg n1, if_neg n3, if_neg e2]; rfl, ?_⟩
    ·exact beq_eq_false_iff_ne.mpr fun h => e1 (Int.sub_eq_zero.mp h)
    ·exact D3.ext (z (ou u.pa (hg ▸ l.pa) q u.is)) (b hg) (e _)
end Ev
end
section
namespace Ev
open PySem
theorem kL {a : Int} (h : 0 ≤ a) (h2 : a ≤ 27) : a ∈ bz := (iy (m := 28) (a := 0)).mpr ⟨h, Int.lt_of_le_of_lt h2 (by decide)⟩
theorem Nz {a : Int} (h : 0 ≤ a) (h2 : a < 162) : a ∈ kF := (iy (m := 162) (a := 0)).mpr ⟨h, h2⟩
theorem mD {α : Type} [BEq α] [LawfulBEq α] {i : α} : ∀ {o : Option α}, kH i o = true → o = some i := @fun aa => @(match aa with
 | some j => @fun h => congrArg some (eq_of_beq h)
 | none => @fun h => ai h)
theorem jV {a b : Bool} (h : (a || b) = true) (ha : a = false) : b = true := by rw [ha] at h; exact h
structure Hw (M x : Int) : Prop where
 s : x ≤ M → Float64.sub (aF M) (aF x) = aF (M - x)
 eq : dR (aF M) (aF x) = some (M == x)
 lt : nM (aF M) (aF x) = some (decide (M < x))
 gt : ik (aF M) (aF x) = decide (M > x)
theorem kY {M x : Int} (hM : M ∈ bz) (hx : x ∈ bz) : Hw M x :=
 have h := aj (List.all_eq_true.mp (List.all_eq_true.mp Qe M hM) x hx)
 have h2 := aj h.2
 have h3 := aj h2.2
 ⟨fun q => eq_of_beq (jV h.1 (decide_eq_false (Int.not_lt.mpr q))), mD h2.1, mD h3.1, eq_of_beq h3.2⟩
structure nf (a W : Int) : Prop where
 fr : fr a W = frac a W
 scale : ∀ k, k ∈ bz → 0 < k → W * k ≤ 27 → frac (a * k) (W * k) = frac a W ∧ (a * k == 0) = (a == 0)
 gt : ik (frac a W) 0 = decide (0 < a)
 eq : dR (frac a W) (frac a W) = some true
 rd : fh (Float64.mul (Float64.mul (Float64.ofInt 64) (frac a W)) (aF W)) = some a
theorem ja {a : Int} (h : a ≠ 0) : (a == 0) = false := beq_eq_false_iff_ne.mpr h
theorem pU {a W : Int} (ha : a ∈ bz) (hW : W ∈ bz) (h0 : 0 < W) (h : a ≤ W) : nf a W :=
 have h1 := aj (jV (List.all_eq_true.mp (List.all_eq_true.mp JO W hW) a ha) (by rw [ja (Int.ne_of_gt h0), decide_eq_false (Int.not_lt.mpr h)]; rfl))
 have h2 := aj h1.1
 have h3 := aj h1.2
 have h4 := aj h3.1
 ⟨eq_of_beq h2.1, fun k hk k0 kW => by
  have q := aj (jV (List.all_eq_true.mp h2.2 k hk) (by rw [ja (Int.ne_of_gt k0), decide_eq_false (Int.not_lt.mpr kW)]; rfl))
  exact ⟨eq_of_beq q.1, eq_of_beq q.2⟩, eq_of_beq h4.1, mD h4.2, mD h3.2⟩
structure Ag (P W : Int) : Prop where
 can : gu P W = tw (P * (LL / W))
 near : yj (gu P W) (P * (LL / W)) = true
 rnd : fh (Float64.mul (Float64.ofInt (6 * W)) (gu P W)) = some P
 lw : LL / W * W = LL
theorem Ll {d : D3} {W g : Int} (hg : g ∈ bz) (g0 : 0 < g) (h1 : nf d.1 W) (h2 : nf d.2.1 W) (h3 : nf d.2.2 W) (hW : W * g ≤ 27) : nX (Ga g d) (W * g) = nX d W := by
 have q1 := h1.scale g hg g0 hW
 have q2 := h2.scale g hg g0 hW
 have q3 := h3.scale g hg g0 hW
 show nW (sel (d.1 * g == 0) (Float64.sub (frac (d.2.2 * g) (W * g)) (frac (d.2.1 * g) (W * g))) (sel (d.2.1 * g == 0) (Float64.sub (Float64.add 4611686018427387904 (frac (d.1 * g) (W * g))) (frac (d.2.2 * g) (W * g))) (Float64.sub (Float64.add 4616189618054758400 (frac (d.2.1 * g) (W * g))) (frac (d.1 * g) (W * g))))) = _
 rw [q1.1, q2.1, q3.1, q1.2, q2.2]; rfl
theorem xA {W a : Int} (h : tE W a = true) (hW : W ∈ bz) (h0 : 0 < W) (J7 : W ≤ 27) : nf a W :=
 have q := aj h
 pU (kL (of_decide_eq_true q.1) (Int.le_trans (of_decide_eq_true q.2) J7)) hW h0 (of_decide_eq_true q.2)
theorem Lv {P W : Int} (h0 : 0 < W) (hW : W ≤ 27) (p0 : 0 ≤ P) (hP : P < 6 * W) : Ag P W := by
 have kg : ∀ {P W : Int}, 0 < W → W ≤ 27 → 0 ≤ P → P < 6 * W → (FF P W (gc P W) (P / gc P W) (W / gc P W) && (gc P W != 1 || C5 P W (gu P W))) = true := fun {P W} h0 hW p0 hP =>
  jV (List.all_eq_true.mp (Ln (kL (Int.le_of_lt h0) hW)) P (Nz p0 (by lia))) (decide_eq_false (Int.not_le.mpr hP))
 have r := (aj (kg h0 hW p0 hP)).1
 generalize gc P W = g at r
 generalize P / g = P' at r
 generalize W / g = W' at r
 have r1 := aj r
 have r2 := aj r1.1
 have r3 := aj r2.1
 have r4 := aj r3.2
 have r5 := aj r4.2
 have r6 := aj r2.2
 have r7 := aj r6.2
 have r8 := aj r7.2
 have r9 := aj r1.2
 have s1 := aj r9.1
 have s2 := aj s1.1
 have s3 := aj s1.2
 have s4 := aj r9.2
 have s5 := aj s4.1
 have s6 := aj s4.2
 have s7 := aj s6.2
 have W0 := of_decide_eq_true r6.1
 have o5 := of_decide_eq_true r7.1
 have g0 := of_decide_eq_true r5.1
 have hg := kL (Int.le_of_lt g0) (of_decide_eq_true r5.2)
 have mW := kL (Int.le_of_lt W0) o5
 have c := (aj (kg W0 o5 (of_decide_eq_true r8.1) (of_decide_eq_true r8.2))).2
 have c := aj (jV c (by rw [eq_of_beq s5.2]; rfl))
 have eP := eq_of_beq r3.1
 have eW := eq_of_beq r4.1
 have e : gu P W = gu P' W' := by
  show nX (jF P W) W = _
  rw [eq_of_beq s5.1, ← eW]
  exact Ll hg g0 (xA s6.1 mW W0 o5) (xA s7.1 mW W0 o5) (xA s7.2 mW W0 o5) (by rw [eW]; exact hW)
 refine ⟨e.trans ?_, by rw [e, eq_of_beq s2.1]; exact c.1, ?_, eq_of_beq s2.2⟩
 ·show _ = gu (P * (LL / W) / gc (P * (LL / W)) LL) (LL / gc (P * (LL / W)) LL)
  rw [eq_of_beq s3.1, eq_of_beq s3.2]
 ·have q := jV (List.all_eq_true.mp c.2 g hg) (by rw [ja (Int.ne_of_gt g0), decide_eq_false (by rw [Int.mul_comm, eW]; exact Int.not_lt.mpr hW)]; rfl)
  rw [e, ← eW]
  rw [eP] at q
  exact mD q
structure bq (c : aD) : Prop where
 r : c.r ∈ bz
 g : c.g ∈ bz
 b : c.b ∈ bz
theorem Fq {a b : Int} (ha : a ∈ bz) (hb : b ∈ bz) : pN (aF a) (aF b) = aF (ff a b) := by
 unfold pN ff
 rw [(kY hb ha).gt]
 by_cases h : a < b
 ·rw [decide_eq_true (show b > a from h), if_pos h]; rfl
 ·rw [decide_eq_false (show ¬ b > a from h), if_neg h]; rfl
theorem Ft {a b : Int} (ha : a ∈ bz) (hb : b ∈ bz) : sN (aF a) (aF b) = some (aF (eO a b)) := by
 unfold sN eO
 rw [(kY hb ha).lt]
 by_cases h : b < a
 ·rw [decide_eq_true h, if_pos h]; rfl
 ·rw [decide_eq_false h, if_neg h]; rfl
theorem oM {a b : Int} {t : Prop} [Decidable t] (ha : a ∈ bz) (hb : b ∈ bz) : (if t then a else b) ∈ bz := by
 by_cases h : t
 ·rw [if_pos h]; exact ha
 ·rw [if_neg h]; exact hb
theorem bq.low {c : aD} (h : bq c) : c.low ∈ bz := oM h.b (oM h.g h.r)
theorem bq.top {c : aD} (h : bq c) : c.top ∈ bz := oM h.b (oM h.g h.r)
theorem jC {a : Int} (h : a ∈ bz) : 0 ≤ a ∧ a ≤ 27 := let q := (iy (m := 28) (a := 0)).mp h; ⟨q.1, Int.le_of_lt_add_one q.2⟩
theorem Cd {c : aD} (h : bq c) : ir (aF c.r) (aF c.g) (aF c.b) = aF c.top := by
 unfold ir
 rw [Fq h.r h.g]
 exact Fq (oM h.g h.r) h.b
theorem Ce {c : aD} (h : bq c) : sM (aF c.r) (aF c.g) (aF c.b) = some (aF c.low) := by
 unfold sM
 rw [Ft h.r h.g]
 exact Ft (oM h.g h.r) h.b
structure HA (x : Int) : Prop where
 z : Float64.isZero (aF x) = (x == 0)
 b : eX x = true
 b6 : eX (6 * x) = true
 rd : fh (Float64.mul (Float64.mul (Float64.ofInt 64) 0) (aF x)) = some 0
theorem qV {x : Int} (h : x ∈ bz) : HA x :=
 have q := aj (List.all_eq_true.mp Q2 x h)
 have q2 := aj q.1
 have q3 := aj q2.2
 ⟨eq_of_beq q2.1, q3.1, q3.2, mD q.2⟩
theorem GB {M x : Int} : (M - x == 0) = (x == M) := by
 cases h : x == M with
 | true => rw [eq_of_beq h, Int.sub_self]; rfl
 | false => exact ja fun q => (beq_eq_false_iff_ne.mp h) (Int.sub_eq_zero.mp q).symm
structure Hu (c : aD) : Prop where
 d : jF c.place c.wide = (c.top - c.r, c.top - c.g, c.top - c.b)
 p0 : 0 ≤ c.place
 p6 : c.place < 6 * c.wide
 way : G1 c.place c.wide (c.top - c.r, c.top - c.g, c.top - c.b) = true
 step : stepOk c.place c.wide (c.top - c.r, c.top - c.g, c.top - c.b) = true
theorem jY {c : aD} (h : bq c) : c.wide ≤ c.top := Int.sub_le_self _ (jC h.low).1
theorem qR {c : aD} (h : bq c) (h0 : c.wide > 0) : c.wide ∈ bz := kL (Int.le_of_lt h0) (Int.le_trans (jY h) (jC h.top).2)
theorem uy {c : aD} (h : bq c) (h0 : c.wide > 0) : Hu c := by
 obtain ⟨k, t, s⟩ := PF c
 have mW := qR h h0
 have q := List.all_eq_true.mp (List.all_eq_true.mp (Py mW) k s.k6) t (kL s.t0 (Int.le_trans s.t1 (jC mW).2))
 have q := aj (jV q (by rw [ja (Int.ne_of_gt h0), decide_eq_false (Int.not_lt.mpr s.t1), s.no]; rfl))
 rw [← s.p, s.d] at q
 have q1 := aj q.1
 have q2 := aj q1.2
 have q3 := aj q.2
 exact ⟨eq_of_beq q1.1, of_decide_eq_true q2.1, of_decide_eq_true q2.2, q3.1, q3.2⟩
theorem O0 {c : aD} (h : bq c) (h0 : c.wide > 0) : zb (aF c.r) (aF c.g) (aF c.b) = some (gu c.place c.wide, frac c.wide c.top, aF c.top) := by
 have ht := h.top
 have hl := h.low
 have hw := qR h h0
 have b := kZ c
 have t0 : 0 < c.top := Int.lt_of_lt_of_le h0 (jY h)
 have lt : c.low < c.top := Int.lt_of_sub_pos h0
 have d : ∀ {x : Int}, x ∈ bz → x ≤ c.top → c.low ≤ x → Float64.div (Float64.sub (aF c.top) (aF x)) (aF c.wide) = frac (c.top - x) c.wide := fun {x} hx h1 h2 => by
  rw [(kY ht hx).s h1]
  have q := Int.sub_le_sub_left h2 c.top
  exact (pU (kL (Int.sub_nonneg_of_le h1) (Int.le_trans q (jC hw).2)) hw h0 q).fr
 have l := kK c
 have sW : Float64.sub (aF c.top) (aF c.low) = aF c.wide := (kY ht hl).s (Int.le_of_lt lt)
 unfold zb
 rw [Ce h, Cd h]
 show ((dR (aF c.low) (aF c.top)).bind _) = _
 rw [(kY hl ht).eq, beq_eq_false_iff_ne.mpr (Int.ne_of_lt lt), (kY h.r ht).eq, (kY h.g ht).eq, sW, (qV ht).z, (qV hw).z, ja (Int.ne_of_gt t0), ja (Int.ne_of_gt h0)]
 show some (nW (l8 (aF c.r) (aF c.g) (aF c.b) (aF c.top) (aF c.low) (c.r == c.top) (c.g == c.top)), Float64.div (aF c.wide) (aF c.top), aF c.top) = _
 have e : gu c.place c.wide = nX (c.top - c.r, c.top - c.g, c.top - c.b) c.wide := by rw [← (uy h h0).d]; rfl
 rw [e, show Float64.div (aF c.wide) (aF c.top) = frac c.wide c.top from (pU hw ht t0 (jY h)).fr]
 unfold l8 nX
 rw [sW, d h.r b.pa l.pa, d h.g b.pb l.pb, d h.b b.pc l.pc, GB, GB]
end Ev
end
section
namespace Ev
open PySem
theorem vQ {a b : D} {as bs : List D} (h1 : aM a b = some true) (h2 : cB as bs = some true) : cB (a :: as) (b :: bs) = some true := by
 show ((aM a b).bind _) = _
 rw [h1]
 show ((cB as bs).map _) = _
 rw [h2]; rfl
theorem vU {a b c : D} (h1 : aM a a = some true) (h2 : aM b b = some true) (h3 : aM c c = some true) : aM (.tup [a, b, c]) (.tup [a, b, c]) = some true := vQ h1 (vQ h2 (vQ h3 rfl))
theorem eq_int (i : Int) : aM (.int i) (.int i) = some true := congrArg some (beq_self_eq_true i)
section
variable {Δ : Dl} {h s v o : UInt64} {size : Int} {c : aD}
noncomputable abbrev zc (h s v : UInt64) (size : Int) (c : aD) : af := [some (.tup [.flt h, .int size, .flt s, .flt v]), some c.d, some (.flt h), some (.int size), some (.flt s), some (.flt v), some (.int c.top), some (.int c.wide), none, none, none, none]
theorem FN (k : aE Δ 197 (nN.body.drop 3) (zc h s v size c) [] (.bool true)) : cM Δ 200 nN [.tup [.flt h, .int size, .flt s, .flt v], c.d] = some (.bool true) :=
 aE.run (aE.lF (vars' := [some (.tup [.flt h, .int size, .flt s, .flt v]), some c.d, some (.flt h), some (.int size), some (.flt s), some (.flt v), none, none, none, none, none, none]) (e := .var 0) (x := .tup [.flt h, .int size, .flt s, .flt v]) rfl rfl (aE.asg (vars' := [some (.tup [.flt h, .int size, .flt s, .flt v]), some c.d, some (.flt h), some (.int size), some (.flt s), some (.flt v), some (.int c.top), none, none, none, none, none]) (dK (ds := [c.d]) rfl rfl (yc c) rfl rfl) rfl (aE.asg (vars' := zc h s v size c) (aR (a := .var 6) rfl (dK (ds := [c.d]) rfl rfl (yg c) rfl rfl) rfl) rfl k))) rfl rfl rfl
theorem FL (w : Bool) (hw : (c.wide == 0) = w) : aX Δ 196 (.cmp .Eq (.var 7) (.lit (.int 0))) (zc h s v size c) [] = some (w, []) := bU (a := .var 7) (b := .lit (.int 0)) rfl rfl rfl rfl (jc (by decide : 0 ≤ 50) (congrArg some hw))
theorem O6 (aH : Δ.aH = true) (hw : (c.wide == 0) = true) (hb : eX c.top = true) (hv : dR v v = some true) (e : v = aF c.top) : cM Δ 200 nN [.tup [.flt 0, .int size, .flt 0, .flt v], c.d] = some (.bool true) := by
 have z : dR 0 0 = some true := by decide +kernel
 refine FN (aE.n5 (FL true hw) (aE.ret (x := .bool true) (ig (x := .tup [.flt 0, .flt 0, .flt v]) (y := .tup [.flt 0, .flt 0, .flt v]) rfl (jI (aN (gf aH) (aN (gf aH) (aN (es := []) (cR (a := .var 6) aH rfl (gf aH) rfl rfl rfl (vK hb)) rfl))) (by decide : 3 ≤ az) |>.trans (by rw [e])) rfl rfl (jc (by decide : 1 ≤ 50) (vU z z hv))) rfl))
theorem O5 (aH : Δ.aH = true) (hw : (c.wide == 0) = false) (hb : eX c.top = true) (hv : dR v v = some true) (hs : dR s s = some true) (e : v = aF c.top) (e1 : dH .Mult (.int (6 * c.wide)) (.flt h) = some (.flt o)) (e2 : fh o = some c.place) (e3 : dH .Div (.int c.wide) (.int c.top) = some (.flt s)) (h3 : Δ.fns 3 [c.d] = some (.int c.place)) : cM Δ 200 nN [.tup [.flt h, .int size, .flt s, .flt v], c.d] = some (.bool true) := by
 refine FN (aE.skip (FL false hw) (aE.ret (x := .bool true) (ig (x := .tup [.int c.place, .flt s, .flt v]) (y := .tup [.int c.place, .flt s, .flt v]) (jI (aN (dK (ds := [.flt o]) (aN (es := []) (cR (b := .var 2) aH (aR (a := .lit (.int 6)) (b := .var 7) rfl rfl (fW rfl)) rfl rfl rfl rfl e1) rfl) rfl (by show (fh o).map _ = _; rw [e2]; rfl) rfl rfl) (aN (a := .var 4) rfl (aN (a := .var 5) rfl rfl))) (by decide : 3 ≤ az)) (jI (aN (fQ (ds := [c.d]) rfl rfl h3) (aN (cR (a := .var 7) (b := .var 6) aH rfl rfl rfl rfl rfl e3) (aN (es := []) (cR (a := .var 6) aH rfl (gf aH) rfl rfl rfl (vK hb)) rfl))) (by decide : 3 ≤ az) |>.trans (by rw [e])) rfl rfl (jc (by decide : 1 ≤ 50) (vU (eq_int _) hs hv))) rfl))
end
end Ev
end
section
namespace Ev
open PySem
theorem Co : ∀ {m k : Nat} {a : Int}, k < m → (intsFrom a m)[k]? = some (a + k)
 | m + 1, 0, a, _ => by rw [Int.natCast_zero, Int.add_zero]; rfl
 | m + 1, k + 1, a, h => by
  show (intsFrom (a + 1) m)[k]? = _
  rw [Co (Nat.lt_of_succ_lt_succ h), succ_shift']
where succ_shift' {a : Int} {k : Nat} : a + 1 + (k : Int) = a + ((k + 1 : Nat) : Int) := by lia
theorem Gi {α : Type} (f : Int → α) {m : Nat} {i : Int} (h1 : 1 ≤ i) (h2 : i ≤ m) : ((intsFrom 1 m).map f)[(i - 1).toNat]? = some (f i) := by
 rw [List.getElem?_map, Co (show (i - 1).toNat < m by lia), Int.toNat_of_nonneg (by lia), Int.add_comm, Int.sub_add_cancel]; rfl
theorem uL {Δ : Dl} {n : Nat} {vars : af} {σ σ1 : ae} {a : E} {t : Bool} (h : aX Δ n a vars σ = some (t, σ1)) : aX Δ (n + 1) (.not a) vars σ = some (!t, σ1) :=
 (aP (k := fun (b : Bool) (σ : ae) => some (!b, σ)) h).trans rfl
theorem Av {α : Type} (p : α → Bool) : ∀ l : List α, jz (l.map fun a => .bool (p a)) = some (l.map p) := @fun aa => match aa with
 | [] => rfl
 | a :: l => by
  show (jz (l.map fun a => .bool (p a))).map (p a :: ·) = _
  rw [Av p l]; rfl
theorem CD {α : Type} (p : α → Bool) : ∀ l : List α, (!(l.map p).contains false) = l.all p := @fun aa => match aa with
 | [] => rfl
 | a :: l => by
  have h := CD p l
  rw [List.map_cons, List.contains_cons, List.all_cons, ← h]
  cases p a <;> rfl
theorem EZ {Δ : Dl} {n i : Nat} {vars : af} {α : Type} (p : α → Bool) {l : List α} (h : (vars[i]?).join = some (.lst (l.map fun a => .bool (p a)))) : ah Δ (n + 1 + 1 + 1) (.cmp .NotIn (.lit (.bool false)) (.var i)) vars [] = some (.bool (l.all p), []) := by
 refine ig (x := .bool false) (y := .lst (l.map fun a => .bool (p a))) rfl ?_ rfl rfl ?_
 ·show ((vars[i]?.join).map _) = _
  rw [h]; rfl
 ·show ((jz (l.map fun a => D.bool (p a))).map (·.contains false)).map (!·) = _
  rw [Av, ← CD]; rfl
theorem EL {Δ : Dl} {n : Nat} {vars : af} {a b : E} {t : Bool} (h1 : ah Δ n a vars [] = some (.bool t, [])) (h2 : ah Δ n b vars [] = some (.bool t, [])) : aX Δ (n + 1 + 1) (.cmp .NotEq a b) vars [] = some (false, []) :=
 bU h1 h2 rfl rfl (Ba (x := .bool t) (y := .bool t) (Nat.zero_le 50) (congrArg some (beq_self_eq_true t)))
noncomputable def bM (a b : Int) : D := .tup [.int a, .int b]
section
variable {Δ : Dl} {as bs : List (Nat × D)} {f g u w : Int → Int} {m L : Nat} {lt eq : Bool}
noncomputable abbrev yU (as bs : List (Nat × D)) (f g u w : Int → Int) (m L : Nat) (x5 x6 x7 x8 : Option D) : af := [some (.inst as), some (.inst bs), some (.lst ((intsFrom 1 m).map fun i => bM (f i) (g i))), some (.lst ((intsFrom 1 m).map fun i => bM (u i) (w i))), some (.int L), x5, x6, x7, x8]
theorem Ov (pa : D.bF as = true) (pb : D.bF bs = true) (hm : m ≤ 900) (hL : L ≤ m) (ha : ∀ i : Int, 1 ≤ i → i ≤ m → decide (w i < u i) = decide (f i < g i)) (he : ∀ i : Int, 1 ≤ i → i ≤ m → (w i == u i) = (f i == g i))
  (h4 : Δ.fns 104 [.inst as, .inst bs] = some (.bool ((intsFrom 1 m).all fun i => decide (f i < g i)))) (h5 : Δ.fns 105 [.inst as, .inst bs] = some (.bool ((intsFrom 1 m).all fun i => f i == g i)))
  (h6 : Δ.fns 106 [.inst as, .inst bs] = some (.lst (((intsFrom 1 L).filter (fun i => decide (f i ≥ g i))).map fun i => iZ i (f i) (g i)))) :
  cM Δ 200 B8 [.inst as, .inst bs, .lst ((intsFrom 1 m).map fun i => bM (f i) (g i)), .lst ((intsFrom 1 m).map fun i => bM (u i) (w i)), .int L] = some (.bool true) := by
 have len : ∀ k, k ≤ m → (intsFrom 1 k).length ≤ az := fun k hk => by rw [Dq]; exact Nat.le_trans (Nat.le_trans hk hm) (by decide)
 have mem : ∀ {k : Nat} {i : Int}, k ≤ m → i ∈ intsFrom 1 k → 1 ≤ i ∧ i ≤ k := fun hk hi => let q := iy.mp hi; ⟨q.1, by lia⟩
 have cm : ∀ (n : Nat) (op : CmpOp) (p : Int → Bool) (x5 x6 : Option D), (∀ i, 1 ≤ i → i ≤ (m : Int) → b8 op (.int (w i)) (.int (u i)) = some (p i)) → ah Δ (n + 1 + 1 + 1) (.comp [none, none, none] (.cmp op (.var 2) (.var 1)) (.tup [1, 2]) (.var 3) []) (yU as bs f g u w m L x5 x6 none none) [] = some (.lst ((intsFrom 1 m).map fun i => .bool (p i)), []) := fun n op p x5 x6 h =>
  fR (n := n + 1) (fun i => bM (u i) (w i)) (fun i => .bool (p i)) (fun vs => ∃ x y, vs = [none, x, y]) (gS rfl (len m (Nat.le_refl m))) rfl (len m (Nat.le_refl m)) (by
   rintro i hi vs ⟨x, y, rfl⟩
   have q := mem (Nat.le_refl m) hi
   exact ⟨[none, some (.int (u i)), some (.int (w i))], rfl, ⟨_, _, rfl⟩, ig (a := .var 2) (b := .var 1) rfl rfl rfl rfl (h i q.1 q.2)⟩) ⟨none, none, rfl⟩
 have e5 := cm 195 .Lt (fun i => decide (f i < g i)) none none fun i q1 q2 => by rw [← ha i q1 q2]; rfl
 have e6 := cm 194 .Eq (fun i => f i == g i) (some (.lst ((intsFrom 1 m).map fun i => .bool (decide (f i < g i))))) none fun i q1 q2 => by rw [← he i q1 q2]; exact jc (Nat.zero_le 50) rfl
 have Kf : small ((L : Int) + 1) = true := jX (n := L + 1) (by lia)
 have hn : ((L : Int) + 1 - 1).toNat = L := by lia
 have e7 := vY (Δ := Δ) (n := 193) (vars := yU as bs f g u w m L (some (.lst ((intsFrom 1 m).map fun i => .bool (decide (f i < g i))))) (some (.lst ((intsFrom 1 m).map fun i => .bool (f i == g i)))) none none) (σ := []) (σ1 := []) (aq := [none, none, some 5, some 2]) (t := .var 1) (it := .range [(.lit (.int 1)), (.bin .Add (.var 4) (.lit (.int 1)))]) (elt := .tup [(.var 1), (.idx (.idx (.var 3) (.bin .Sub (.var 1) (.lit (.int 1)))) (.lit (.int 0))), (.idx (.idx (.var 3) (.bin .Sub (.var 1) (.lit (.int 1)))) (.lit (.int 1)))]) (c := .not (.idx (.var 2) (.bin .Sub (.var 1) (.lit (.int 1)))))
  D.int (fun i => iZ i (f i) (g i)) (fun i => decide (f i ≥ g i)) (fun vs => ∃ x, vs = [none, x, some (.lst ((intsFrom 1 m).map fun i => .bool (decide (f i < g i)))), some (.lst ((intsFrom 1 m).map fun i => bM (f i) (g i)))]) (l := intsFrom 1 L)
  (by have q := tJ (Δ := Δ) (n := 194) (a := 1) (b := (L : Int) + 1) (e1 := .lit (.int 1)) (e2 := .bin .Add (.var 4) (.lit (.int 1))) (vars := yU as bs f g u w m L (some (.lst ((intsFrom 1 m).map fun i => .bool (decide (f i < g i))))) (some (.lst ((intsFrom 1 m).map fun i => .bool (f i == g i)))) none none) (σ := []) (σ' := []) (aN (a := .lit (.int 1)) rfl (aN (es := []) (aR (a := .var 4) (b := .lit (.int 1)) rfl rfl rfl) rfl)) rfl Kf (by rw [hn]; exact Nat.le_trans (Nat.le_trans hL hm) (by decide)); rw [hn] at q; exact q) rfl (len L hL) (by
   rintro i hi vs ⟨x, rfl⟩
   have q := mem hL hi
   have q2 : i ≤ m := Int.le_trans q.2 (Int.ofNat_le.mpr hL)
   have hs : small (i - 1) = true := qL (by lia)
   have h0 : 0 ≤ i - 1 := Int.sub_nonneg_of_le q.1
   refine ⟨[none, some (.int i), some (.lst ((intsFrom 1 m).map fun i => .bool (decide (f i < g i)))), some (.lst ((intsFrom 1 m).map fun i => bM (f i) (g i)))], rfl, ⟨_, rfl⟩, ?_, fun ξ => ?_⟩
   ·have hd : decide (f i ≥ g i) = !decide (f i < g i) := by
     by_cases h : f i < g i
     ·rw [decide_eq_true h, decide_eq_false (Int.not_le.mpr h)]; rfl
     ·rw [decide_eq_false h, decide_eq_true (Int.not_lt.mp h)]; rfl
    rw [hd]
    exact uL ((aP (k := fun x σ => (g8 x σ).map fun t => (t, σ)) (bY (a := .var 2) (n := 191) (b := .bin .Sub (.var 1) (.lit (.int 1))) (k := i - 1) rfl (aR (a := .var 1) (b := .lit (.int 1)) rfl rfl rfl) rfl rfl h0 hs (Gi _ q.1 q2))).trans rfl)
   ·have ep : ∀ n, ah Δ (n + 1 + 1 + 1) (.idx (.var 3) (.bin .Sub (.var 1) (.lit (.int 1)))) [none, some (.int i), some (.lst ((intsFrom 1 m).map fun i => .bool (decide (f i < g i)))), some (.lst ((intsFrom 1 m).map fun i => bM (f i) (g i)))] [] = some (bM (f i) (g i), []) := fun n => bY (a := .var 3) (b := .bin .Sub (.var 1) (.lit (.int 1))) (k := i - 1) rfl (aR (a := .var 1) (b := .lit (.int 1)) rfl rfl rfl) rfl rfl h0 hs (Gi (fun i => bM (f i) (g i)) q.1 q2)
    exact jI (aN (a := .var 1) rfl (aN (bY (b := .lit (.int 0)) (k := 0) (ep _) rfl rfl rfl (Int.le_refl 0) rfl rfl) (aN (es := []) (bY (b := .lit (.int 1)) (k := 1) (ep _) rfl rfl rfl (by decide) rfl rfl) rfl))) (by decide : 3 ≤ az)) ⟨none, rfl⟩
 have p2 : D.aL [.inst as, .inst bs] = true := uo pa pb
 have pu : D.aL [.inst as, .inst bs, .lst ((intsFrom 1 m).map fun i => bM (f i) (g i)), .lst ((intsFrom 1 m).map fun i => bM (u i) (w i)), .int L] = true := by
  show (D.bF as && (D.bF bs && (D.aL ((intsFrom 1 m).map fun i => bM (f i) (g i)) && (D.aL ((intsFrom 1 m).map fun i => bM (u i) (w i)) && (true && true))))) = true
  rw [pa, pb, gC _ (fun ξ => rfl), gC _ (fun ξ => rfl)]; rfl
 refine aE.run (aE.asg e5 rfl (aE.asg e6 rfl (aE.asg e7 rfl (aE.skip (GP (EL (iz (o := .var 0) (es := [.var 1]) (ds := [.inst bs]) rfl rfl p2 h4) (EZ _ rfl)) (EL (iz (o := .var 0) (es := [.var 1]) (ds := [.inst bs]) rfl rfl p2 h5) (EZ _ rfl))) (aE.ret (x := .bool true) (ig (b := .var 7) (iz (o := .var 0) (es := [.var 1]) (ds := [.inst bs]) rfl rfl p2 h6) rfl rfl rfl (jc (Bj (fun i => iZ i (f i) (g i)) (fun ξ => Nat.le_refl 1) (by decide) _) (BL (fun i => iZ i (f i) (g i)) (fun i => vU (eq_int _) (eq_int _) (eq_int _)) _))) rfl))))) rfl pu rfl
end
end Ev
end
section
namespace Ev
open PySem
noncomputable def cI (N : Nat) : List Int := (cW N).foldl bump []
noncomputable def gw (N : Nat) : Int := ((cW N).length : Nat)
noncomputable def t7 (N : Nat) : Int := ((jr (cW N) + dP N : Nat) : Int)
noncomputable def iF (N : Nat) : Int := (dP N : Nat)
noncomputable def gD (cs : List Int) (i : Nat) : Int := fL (fun j => ((j / i : Nat) : Int)) 0 cs
noncomputable def bO (N : Nat) (i : Int) : Int := iF N + i * (gD (cI N) i.toNat + gw N)
noncomputable def aU (N : Nat) : Nat := max (longest (cW N) - 1) (dP N)
noncomputable def nG (ts : Nat) : List Nat → Nat := @fun aa => match aa with
 | [] => 0
 | r :: rs => r / ts + 1 + nG ts rs
noncomputable def QD (a b c d e : Int) : List Int := if e != 0 then [a, b, c, d, e] else if d != 0 then [a, b, c, d] else if c != 0 then [a, b, c] else if b != 0 then [a, b] else if a != 0 then [a] else []
noncomputable def GY (s1 s2 s3 s4 nt : Int) : List Int := QD (nt - (s1 - 2 * (s2 - (s3 - s4) - 2 * s4) - 3 * (s3 - s4) - 4 * s4) - (s2 - (s3 - s4) - 2 * s4) - (s3 - s4) - s4) (s1 - 2 * (s2 - (s3 - s4) - 2 * s4) - 3 * (s3 - s4) - 4 * s4) (s2 - (s3 - s4) - 2 * s4) (s3 - s4) s4
noncomputable def eo : List Nat := [1, 2, 3, 4, 5]
noncomputable def Df (N i : Nat) : Bool := (decide (0 ≤ bO N i) && decide (bO N i ≤ 27)) && ((bO N i == ((i * nG i (cW N) + dP N : Nat) : Int)) && ((decide (i ≤ aU N) && decide (1 < (cI N).length)) || bO N i == iF N + i * gw N))
noncomputable def Oz (N : Nat) : Bool := kH (true) ((bestOf .Gt ((cF 9 (txt (cW N) (dP N))).map fun w => .int (w.length : Nat))).map fun d => D.beq d (.int (aU N : Nat)))
noncomputable def M4 (N : Nat) : Bool := ((eo.all fun i => Df N i) && (bO N 1 == t7 N && (cI N == GY (gD (cI N) 1) (gD (cI N) 2) (gD (cI N) 3) (gD (cI N) 4) (gw N) && fL (fun ξ => 1) 0 (cI N) == gw N))) && ((max (((cI N).length : Int) - 1) (iF N) == (aU N : Nat) && (decide (aU N ≤ 4) && decide ((cI N).length ≤ 5))) && (Oz N && ((cW N).all (fun r => decide (r ≤ 4)) && (decide ((cW N).length ≤ 3) && ((fc (cW N) (dP N) [32, 9]).all (· < 128) && decide ((fc (cW N) (dP N) [32, 9]).length ≤ 100))))))
theorem leadA : ((List.range' 0 216).all M4) = true := by decide +kernel
theorem leadB : ((List.range' 216 216).all M4) = true := by decide +kernel
theorem leadC : ((List.range' 432 216).all M4) = true := by decide +kernel
theorem leadD : ((List.range' 648 216).all M4) = true := by decide +kernel
theorem leadR {a N : Nat} (t : ((List.range' a 216).all M4) = true) (h : a ≤ N) (g : N < a + 216) : M4 N = true := List.all_eq_true.mp t N (List.mem_range'_1.mpr ⟨h, g⟩)
theorem M5 {N : Nat} (h : N < 864) : M4 N = true :=
 if a : N < 216 then leadR leadA (Nat.zero_le N) (by lia) else if b : N < 432 then leadR leadB (by lia) (by lia) else if c : N < 648 then leadR leadC (by lia) (by lia) else leadR leadD (by lia) (by lia)
structure Hj (N : Nat) : Prop where
 il0 : ∀ i : Nat, i ∈ eo → bO N i ∈ bz
 col : ∀ i : Nat, i ∈ eo → bO N i = ((i * nG i (cW N) + dP N : Nat) : Int)
 flat : ∀ i : Nat, i ∈ eo → (i ≤ aU N ∧ 1 < (cI N).length) ∨ bO N i = iF N + i * gw N
 one : bO N 1 = t7 N
 sig : cI N = GY (gD (cI N) 1) (gD (cI N) 2) (gD (cI N) 3) (gD (cI N) 4) (gw N)
 nt : fL (fun ξ => 1) 0 (cI N) = gw N
 lng : max (((cI N).length : Int) - 1) (iF N) = (aU N : Nat)
 t4 : aU N ≤ 4
 c5 : (cI N).length ≤ 5
 pcs : bestOf .Gt ((cF 9 (txt (cW N) (dP N))).map fun w => .int (w.length : Nat)) = some (.int (aU N : Nat))
 r4 : ∀ r ∈ cW N, r ≤ 4
 r3 : (cW N).length ≤ 3
 asc : (fc (cW N) (dP N) [32, 9]).all (· < 128) = true
 len : (fc (cW N) (dP N) [32, 9]).length ≤ 100
theorem HO {d : D} {i : Int} (h : D.beq d (.int i) = true) : d = .int i := by
 cases d <;> first | exact ai h | exact congrArg D.int (eq_of_beq h)
theorem dI {N : Nat} (h : N < 864) : Hj N := by
 have c := aj (M5 h)
 have c1 := aj c.1
 have c2 := aj c1.2
 have c3 := aj c2.2
 have d1 := aj c.2
 have d2 := aj d1.1
 have d3 := aj d2.2
 have d4 := aj d1.2
 have d5 := aj d4.2
 have d6 := aj d5.2
 have d7 := aj d6.2
 have il : ∀ i : Nat, i ∈ eo → Df N i = true := fun i hi => List.all_eq_true.mp c1.1 i hi
 refine ⟨fun i hi => ?_, fun i hi => ?_, fun i hi => ?_, eq_of_beq c2.1, eq_of_beq c3.1, eq_of_beq c3.2, eq_of_beq d2.1, of_decide_eq_true d3.1, of_decide_eq_true d3.2, ?_, fun r hr => of_decide_eq_true (List.all_eq_true.mp d5.1 r hr), of_decide_eq_true d6.1, d7.1, of_decide_eq_true d7.2⟩
 ·have q := aj (aj (il i hi)).1
  exact kL (of_decide_eq_true q.1) (of_decide_eq_true q.2)
 ·exact eq_of_beq (aj (aj (il i hi)).2).1
 ·exact E9 (aj (aj (il i hi)).2).2 (fun q => .inl ⟨of_decide_eq_true (aj q).1, of_decide_eq_true (aj q).2⟩) fun q => .inr (eq_of_beq q)
 ·have q := mD d4.1
  cases e : bestOf .Gt ((cF 9 (txt (cW N) (dP N))).map fun w => .int (w.length : Nat)) with
  | none => rw [e] at q; exact au q
  | some d => rw [e] at q; exact congrArg some (HO (Option.some.inj q))
end Ev
end
section
namespace Ev
open PySem
theorem i9 {p : Int → Bool} {m : Nat} {a : Int} : (intsFrom a m).all p = true ↔ ∀ i, a ≤ i → i < a + m → p i = true :=
 List.all_eq_true.trans ⟨fun h i h1 h2 => h i (iy.mpr ⟨h1, h2⟩), fun h i hi => let q := iy.mp hi; h i q.1 q.2⟩
theorem EG {i k l : Int} (h : k < l) (h0 : 0 ≤ i) : i * k + i ≤ i * l := by
 have q := Int.mul_le_mul_of_nonneg_left (Int.add_one_le_of_lt h) h0
 rw [Int.mul_add, Int.mul_one] at q
 exact q
theorem Ea {s t k l i : Int} (s0 : 0 ≤ s) (si : s < i) (t0 : 0 ≤ t) (ti : t < i) : (s + i * k < t + i * l ↔ (k < l ∨ k = l ∧ s < t)) ∧ (s + i * k = t + i * l ↔ k = l ∧ s = t) := by
 have i0 : 0 ≤ i := Int.le_of_lt (Int.lt_of_le_of_lt s0 si)
 rcases Int.lt_trichotomy k l with h | h | h
 ·have q := EG h i0
  generalize i * k = x at *
  generalize i * l = y at *
  lia
 ·subst h
  generalize i * k = x
  lia
 ·have q := EG h i0
  generalize i * k = x at *
  generalize i * l = y at *
  lia
structure Flat (f : Int → Int) (t k : Int) (T m : Nat) (c : Prop) : Prop where
 t0 : 0 ≤ t
 tT : t ≤ T
 Tm : T < m
 at_ : ∀ i : Int, 1 ≤ i → i ≤ m → (T < i ∨ ¬ c) → f i = t + i * k
theorem Na {f g : Int → Int} {t u k l : Int} {S T m : Nat} {c d : Prop} [Decidable c] [Decidable d] {n1 n2 : Int} (A : Flat f t k S m c) (B : Flat g u l T m d) (h1 : f 1 = n1) (h2 : g 1 = n2) (hc : c → 0 < S) (hd : d → 0 < T) :
  tQ n1 n2 k l (decide ¬ c) (decide ¬ d) (max S T + 1) f g = (intsFrom 1 m).all fun i => decide (f i < g i) := by
 have m1 : (1 : Int) < 1 + m := by have := A.Tm; lia
 have Lm : max S T + 1 ≤ m := Nat.max_lt.mpr ⟨A.Tm, B.Tm⟩
 have hS : S ≤ max S T := Nat.le_max_left ..
 have hT : T ≤ max S T := Nat.le_max_right ..
 have A1 := A.t0
 have A2 := A.tT
 have B1 := B.t0
 have B2 := B.tT
 generalize max S T = L at *
 have v8 : ∀ i : Int, (L : Int) < i → i ≤ m → (f i < g i ↔ (k < l ∨ k = l ∧ t < u)) := fun i q1 q2 => by
  rw [A.at_ i (by lia) q2 (.inl (by lia)), B.at_ i (by lia) q2 (.inl (by lia))]
  exact (Ea A1 (by lia) B1 (by lia)).1
 unfold tQ
 by_cases hn : n1 ≥ n2
 ·rw [if_pos hn]
  exact (Bool.eq_false_iff.mpr fun q => absurd (of_decide_eq_true (i9.mp q 1 (Int.le_refl 1) m1)) (by rw [h1, h2]; exact Int.not_lt.mpr hn)).symm
 ·rw [if_neg hn]
  have kB : f 1 < g 1 := by rw [h1, h2]; exact Int.not_le.mp hn
  cases hs : decide (¬ c) && decide (¬ d) with
  | true =>
   have q := aj hs
   have nc := of_decide_eq_true q.1
   have nd := of_decide_eq_true q.2
   rw [if_pos rfl]
   refine Bool.eq_iff_iff.mpr ⟨fun h => i9.mpr fun i i1 i2 => decide_eq_true ?_, fun h => decide_eq_true ?_⟩
   ·have hk := of_decide_eq_true h
    rw [A.at_ 1 (Int.le_refl 1) (by lia) (.inr nc), B.at_ 1 (Int.le_refl 1) (by lia) (.inr nd)] at kB
    rw [A.at_ i i1 (by lia) (.inr nc), B.at_ i i1 (by lia) (.inr nd)]
    have q2 := Int.mul_le_mul_of_nonneg_left hk (show 0 ≤ i - 1 by lia)
    rw [Int.sub_mul, Int.sub_mul] at q2
    generalize i * k = x at *
    generalize i * l = y at *
    lia
   ·have q2 := (v8 (L + 1) (by lia) (by lia)).mp (of_decide_eq_true (i9.mp h (L + 1) (by lia) (by lia)))
    lia
  | false =>
   rw [if_neg (by decide)]
   have L1 : 1 ≤ L := by
    by_cases je : c
    ·have := hc je; lia
    ·by_cases kq : d
     ·have := hd kq; lia
     ·rw [decide_eq_true je, decide_eq_true kq] at hs; exact ai hs.symm
   refine Bool.eq_iff_iff.mpr ⟨fun h => i9.mpr fun i i1 i2 => decide_eq_true ?_, fun h => i9.mpr fun i i1 i2 => i9.mp h i (by lia) (by lia)⟩
   by_cases e1 : i = 1
   ·rw [e1]; exact kB
   ·by_cases e2 : i ≤ L
    ·exact of_decide_eq_true (i9.mp h i (by lia) (by lia))
    ·refine (v8 i (by lia) (by lia)).mpr ((v8 (L + 1) (by lia) (by lia)).mp ?_)
     exact of_decide_eq_true (i9.mp h (L + 1) (by lia) (by lia))
theorem HF {f g : Int → Int} {t u k l : Int} {S T m : Nat} {c d : Prop} (A : Flat f t k S m c) (B : Flat g u l T m d) (h : ∀ i : Int, 1 ≤ i → i ≤ m → f i = g i) : k = l ∧ t = u := by
 have Am := A.Tm
 have Bm := B.Tm
 have q := h m (by lia) (Int.le_refl _)
 rw [A.at_ m (by lia) (Int.le_refl _) (.inl (by lia)), B.at_ m (by lia) (Int.le_refl _) (.inl (by lia))] at q
 exact (Ea A.t0 (Int.lt_of_le_of_lt A.tT (by lia)) B.t0 (Int.lt_of_le_of_lt B.tT (by lia))).2.mp q
theorem BF : ∀ as bs : List Int, cB (as.map .int) (bs.map .int) = some (as == bs) := @fun aa ak => match aa, ak with
 | [], [] => rfl
 | [], υ1 :: υ2 => rfl
 | υ1 :: υ2, [] => rfl
 | a :: as, b :: bs => by
  show (some (a == b)).bind (fun p => (cB (as.map .int) (bs.map .int)).map fun q => p && q) = _
  rw [BF as bs]; rfl
theorem eq_norm (as bs : List Int) (t u : Int) : aM (.tup [.tup (as.map .int), .int t]) (.tup [.tup (bs.map .int), .int u]) = some ((as == bs) && ((t == u) && true)) := by
 show ((cB (as.map .int) (bs.map .int)).bind fun p => ((some (t == u)).bind fun p => (some true).map fun q => p && q).map fun q => p && q) = _
 rw [BF]; rfl
end Ev
end
section
namespace Ev
open PySem
section
variable {α : Type} [Inhabited α] (lt : α → α → Bool)
noncomputable def sd (x : α) : Nat → Nat → List α → List α × Nat := @fun aa ak aS => match aa, ak, aS with
 | 0, pos, xs => (xs, pos)
 | k + 1, pos, xs => if pos = 0 then (xs, 0) else if lt x (xs.getD ((pos - 1) / 2) default) then sd x k ((pos - 1) / 2) (xs.set pos (xs.getD ((pos - 1) / 2) default)) else (xs, pos)
noncomputable def kU (pos : Nat) (xs : List α) : List α := (sd lt (xs.getD pos default) pos pos xs).1.set (sd lt (xs.getD pos default) pos pos xs).2 (xs.getD pos default)
noncomputable def fN (ch : Nat) (xs : List α) : Nat := if ch + 1 < xs.length ∧ lt (xs.getD ch default) (xs.getD (ch + 1) default) = false then ch + 1 else ch
noncomputable def su : Nat → Nat → List α → List α × Nat := @fun aa ak aS => match aa, ak, aS with
 | 0, pos, xs => (xs, pos)
 | k + 1, pos, xs => if 2 * pos + 1 < xs.length then su k (fN lt (2 * pos + 1) xs) (xs.set pos (xs.getD (fN lt (2 * pos + 1) xs) default)) else (xs, pos)
noncomputable def qI (xs : List α) : List α := kU lt (su lt xs.length 0 xs).2 ((su lt xs.length 0 xs).1.set (su lt xs.length 0 xs).2 (xs.getD 0 default))
noncomputable def kE (xs : List α) (x : α) : List α := kU lt xs.length (xs ++ [x])
noncomputable def gQ (xs : List α) : α × List α := if xs.length ≤ 1 then (xs.getD 0 default, []) else (xs.getD 0 default, qI lt (xs.dropLast.set 0 (xs.getD (xs.length - 1) default)))
end
section
variable {α : Type} [Inhabited α] {lt : α → α → Bool} {enc : α → D} {Δ qW : Dl}
structure i5 (enc : α → D) (lt : α → α → Bool) : Prop where
 lt : ∀ a b, eu (enc a) (enc b) = some (lt a b)
 pure : ∀ a, (enc a).pure = true
 dep : ∀ a, (enc a).dep ≤ 50
theorem nA {xs : List α} {i : Nat} (h : i < xs.length) : (xs.map enc)[(i : Int).toNat]? = some (enc (xs.getD i default)) := by
 rw [List.getElem?_map, Int.toNat_natCast, List.getD_eq_getElem?_getD, List.getElem?_eq_getElem h]; rfl
theorem zh (x : α) : ∀ (k pos : Nat) (xs : List α), pos < xs.length → (sd lt x k pos xs).1.length = xs.length ∧ (sd lt x k pos xs).2 < xs.length := @fun aa => @(match aa with
 | 0 => @fun pos xs h => ⟨rfl, h⟩
 | k + 1 => @fun pos xs h => by
  unfold sd
  by_cases h0 : pos = 0
  ·rw [if_pos h0]; exact ⟨rfl, h0 ▸ h⟩
  ·rw [if_neg h0]
   cases lt x (xs.getD ((pos - 1) / 2) default) with
   | true =>
    have q := zh x k ((pos - 1) / 2) (xs.set pos (xs.getD ((pos - 1) / 2) default)) (by rw [List.length_set]; lia)
    rw [List.length_set] at q
    exact q
   | false => exact ⟨rfl, h⟩)
noncomputable abbrev fO (x : D) (pos : Nat) (x4 x5 : Option D) : af := [some (.loc 0), some (.int 0), some (.int pos), some x, x4, x5]
noncomputable def Pw : List S := [.asg [(.var 4)] (.bin .RShift (.bin .Sub (.var 2) (.lit (.int 1))) (.lit (.int 1))), .asg [(.var 5)] (.idx (.var 0) (.var 4)), .ite (.cmp .Lt (.var 3) (.var 5)) [.dJ (.var 0) (.var 2) (.var 5), .asg [(.var 2)] (.var 4), .cont] [], .brk]
noncomputable def zf (Δ : Dl) : af → ae → Option (Bool × ae) := fun vars σ => aX Δ 197 (.cmp .Gt (.var 2) (.var 1)) vars σ
noncomputable def zg (Δ : Dl) : af → ae → Option (aI × af × ae) := fun vars σ => aJ Δ 197 Pw vars σ
theorem Kl {p : Nat} : gb .RShift ((p : Int) + 1 - 1) 1 = some (.int ((p / 2 : Nat) : Int)) := by
 rw [Int.add_sub_cancel]
 exact congrArg (fun i => some (D.int i)) (pP p 2)
theorem Px (E : i5 enc lt) {x : α} {p : Nat} {xs : List α} {x4 x5 : Option D} (hx : p + 1 < xs.length) (hl : xs.length ≤ 1000) :
  zf Δ (fO (enc x) (p + 1) x4 x5) [some (.lst (xs.map enc))] = some (true, [some (.lst (xs.map enc))]) ∧ zg Δ (fO (enc x) (p + 1) x4 x5) [some (.lst (xs.map enc))] = some (if lt x (xs.getD (p / 2) default) then (.cont, fO (enc x) (p / 2) (some (.int (p / 2 : Nat))) (some (enc (xs.getD (p / 2) default))), [some (.lst ((xs.set (p + 1) (xs.getD (p / 2) default)).map enc))]) else (.brk, fO (enc x) (p + 1) (some (.int (p / 2 : Nat))) (some (enc (xs.getD (p / 2) default))), [some (.lst (xs.map enc))])) := by
 have CV : p / 2 < xs.length := Nat.lt_of_le_of_lt (Nat.div_le_self ..) (Nat.lt_of_succ_lt hx)
 have sm : ∀ {i : Nat}, i < xs.length → small (i : Int) = true := fun h => gW (Nat.le_trans (Nat.le_of_lt h) (Nat.le_trans hl (by decide)))
 refine ⟨bU (a := .var 2) (b := .var 1) rfl rfl rfl rfl (show b8 .Gt (.int ((p + 1 : Nat) : Int)) (.int 0) = some true from congrArg some (decide_eq_true (Int.natCast_pos.mpr (Nat.succ_pos p)))), ?_⟩
 have k1 : bK Δ 196 (.asg [.var 4] (.bin .RShift (.bin .Sub (.var 2) (.lit (.int 1))) (.lit (.int 1)))) (fO (enc x) (p + 1) x4 x5) [some (.lst (xs.map enc))] = some (.next, fO (enc x) (p + 1) (some (.int (p / 2 : Nat))) x5, [some (.lst (xs.map enc))]) := bR (aR (aR (a := .var 2) (b := .lit (.int 1)) rfl rfl rfl) (b := .lit (.int 1)) rfl Kl) rfl
 have k2 : bK Δ 195 (.asg [.var 5] (.idx (.var 0) (.var 4))) (fO (enc x) (p + 1) (some (.int (p / 2 : Nat))) x5) [some (.lst (xs.map enc))] = some (.next, fO (enc x) (p + 1) (some (.int (p / 2 : Nat))) (some (enc (xs.getD (p / 2) default))), [some (.lst (xs.map enc))]) := bR (bY (a := .var 0) (b := .var 4) rfl rfl rfl rfl (Int.natCast_nonneg _) (sm CV) (nA CV)) rfl
 have hc : aX Δ 193 (.cmp .Lt (.var 3) (.var 5)) (fO (enc x) (p + 1) (some (.int (p / 2 : Nat))) (some (enc (xs.getD (p / 2) default)))) [some (.lst (xs.map enc))] = some (lt x (xs.getD (p / 2) default), [some (.lst (xs.map enc))]) := bU (a := .var 3) (b := .var 5) rfl rfl (uv (E.pure _)) (uv (E.pure _)) (A9 (E.lt _ _) (E.dep _))
 refine (bu k1).trans ((bu k2).trans ?_)
 generalize xs.getD (p / 2) default = a at *
 cases hq : lt x a with
 | true =>
  rw [hq] at hc
  have k3 : bK Δ 192 (.dJ (.var 0) (.var 2) (.var 5)) (fO (enc x) (p + 1) (some (.int (p / 2 : Nat))) (some (enc a))) [some (.lst (xs.map enc))] = some (.next, fO (enc x) (p + 1) (some (.int (p / 2 : Nat))) (some (enc a)), [some (.lst ((xs.set (p + 1) a).map enc))]) := pM (e := .var 5) (o := .var 0) (i := .var 2) rfl rfl rfl rfl (Int.natCast_nonneg _) (sm hx) (by rw [Int.toNat_natCast, List.length_map]; exact hx) (by rw [Int.toNat_natCast, ← List.map_set]; rfl)
  exact Ju (gO hc ((bu k3).trans rfl))
 | false =>
  rw [hq] at hc
  exact (bu (gM hc rfl)).trans rfl
theorem Gb (E : i5 enc lt) (x : α) {m : Nat} (hl : m ≤ 1000) : ∀ (k pos n : Nat) (xs : List α) (x4 x5 : Option D), pos ≤ k → k ≤ n → pos < xs.length → xs.length = m → ∃ y4 y5, eV (zf Δ) (zg Δ) (n + 1) (fO (enc x) pos x4 x5) [some (.lst (xs.map enc))] = some (.next, fO (enc x) (sd lt x k pos xs).2 y4 y5, [some (.lst ((sd lt x k pos xs).1.map enc))]) := @fun aa ak aS => @(match aa, ak, aS with
 | 0, 0, n => @fun xs x4 x5 ξ ξ ξ ξ => ⟨x4, x5, uP rfl⟩
 | 0, p + 1, n => @fun xs x4 x5 hk ξ ξ ξ => absurd hk (Nat.not_succ_le_zero p)
 | k + 1, 0, n => @fun xs x4 x5 ξ ξ ξ ξ => ⟨x4, x5, uP rfl⟩
 | k + 1, p + 1, 0 => @fun xs x4 x5 ξ hn ξ ξ => absurd hn (Nat.not_succ_le_zero k)
 | k + 1, p + 1, n + 1 => @fun xs x4 x5 hk hn hx hm => by
  obtain ⟨t1, t2⟩ := Px (Δ := Δ) (x := x) (x4 := x4) (x5 := x5) E hx (hm ▸ hl)
  show ∃ y4 y5, eV (zf Δ) (zg Δ) (n + 1 + 1) (fO (enc x) (p + 1) x4 x5) [some (.lst (xs.map enc))] = some (.next, fO (enc x) (if lt x (xs.getD (p / 2) default) = true then sd lt x k (p / 2) (xs.set (p + 1) (xs.getD (p / 2) default)) else (xs, p + 1)).2 y4 y5, [some (.lst ((if lt x (xs.getD (p / 2) default) = true then sd lt x k (p / 2) (xs.set (p + 1) (xs.getD (p / 2) default)) else (xs, p + 1)).1.map enc))])
  cases hq : lt x (xs.getD (p / 2) default) with
  | true =>
   rw [hq] at t2
   obtain ⟨y4, y5, e⟩ := Gb E x hl k (p / 2) n (xs.set (p + 1) (xs.getD (p / 2) default)) _ _ (Nat.le_trans (Nat.div_le_self ..) (Nat.le_of_succ_le_succ hk)) (Nat.le_of_succ_le_succ hn) (by rw [List.length_set]; exact Nat.lt_of_le_of_lt (Nat.div_le_self ..) (Nat.lt_of_succ_lt hx)) (by rw [List.length_set]; exact hm)
   exact ⟨y4, y5, (zZ t1 t2).trans e⟩
  | false =>
   rw [hq] at t2
   exact ⟨_, _, (zZ t1 t2).trans rfl⟩)
theorem Bk (E : i5 enc lt) {xs : List α} {pos : Nat} (hx : pos < xs.length) (hl : xs.length ≤ 900) : eR Δ 200 pV (xs.map enc) [.int 0, .int pos] = some (.none, (kU lt pos xs).map enc) := by
 have pe : ∀ ys : List α, D.aL (ys.map enc) = true := fun ys => gC enc E.pure ys
 have sm : small (pos : Int) = true := gW (Nat.le_trans (Nat.le_of_lt hx) (Nat.le_trans hl (by decide)))
 obtain ⟨y4, y5, e⟩ := Gb (Δ := Δ) E (xs.getD pos default) (Nat.le_trans hl (by decide)) pos pos 999 xs none none (Nat.le_refl _) (Nat.le_trans (Nat.le_of_lt hx) (Nat.le_trans hl (by decide))) hx rfl
 have q := zh (lt := lt) (xs.getD pos default) pos pos xs hx
 unfold kU
 generalize sd lt (xs.getD pos default) pos pos xs = r at *
 have zq : small (r.2 : Int) = true := gW (Nat.le_trans (Nat.le_of_lt q.2) (Nat.le_trans hl (by decide)))
 refine qE (σ := [some (.lst ((r.1.set r.2 (xs.getD pos default)).map enc))]) rfl rfl (pe _) ((bu (vars' := fO (enc (xs.getD pos default)) pos none none) (σ' := [some (.lst (xs.map enc))]) (bR (bY (a := .var 0) (b := .var 2) rfl rfl rfl rfl (Int.natCast_nonneg _) sm (nA hx)) rfl)).trans ((bu (BU e)).trans (cV (pM (e := .var 3) (o := .var 0) (i := .var 2) rfl rfl rfl rfl (Int.natCast_nonneg _) zq (by rw [Int.toNat_natCast, List.length_map, q.1]; exact q.2) (by rw [Int.toNat_natCast, ← List.map_set]; rfl))))) rfl rfl rfl (pe _)
theorem OM (E : i5 enc lt) (h2 : ∀ xs ds, Δ.muts 2 xs ds = eR qW 200 pV xs ds) {xs : List α} {x : α} (hl : xs.length ≤ 800) : eR Δ 200 v9 (xs.map enc) [enc x] = some (.none, (kE lt xs x).map enc) := by
 have e : xs.map enc ++ [enc x] = (xs ++ [x]).map enc := by rw [List.map_append]; rfl
 have en : (((xs.map enc ++ [enc x]).length : Nat) : Int) - 1 = (xs.length : Nat) := by rw [List.length_append, List.length_map]; exact Int.add_sub_cancel (xs.length : Int) 1
 have pe : ∀ ys : List α, D.aL (ys.map enc) = true := fun ys => gC enc E.pure ys
 refine OL ?_ (by rw [List.length_map]; exact Nat.le_trans hl (by decide)) (pe _) (E.pure x) (pe _) (by rw [e]; exact pe _)
 rw [en, h2, e]
 exact Bk E (by rw [List.length_append]; exact Nat.lt_succ_self _) (by rw [List.length_append]; exact Nat.succ_le_succ (Nat.le_trans hl (by decide : 800 ≤ 899)))
noncomputable abbrev fj (x : D) (n pos ch : Nat) (x6 : Option D) : af := [some (.loc 0), some (.int pos), some (.int n), some (.int 0), some x, some (.int ch), x6, none, none]
noncomputable def P8 : List S := [.asg [(.var 6)] (.bin .Add (.var 5) (.lit (.int 1))), .ite (.both (.cmp .Lt (.var 6) (.var 2)) (.not (.cmp .Lt (.idx (.var 0) (.var 5)) (.idx (.var 0) (.var 6))))) [.asg [(.var 5)] (.var 6)] [], .dJ (.var 0) (.var 1) (.idx (.var 0) (.var 5)), .asg [(.var 1)] (.var 5), .asg [(.var 5)] (.bin .Add (.bin .Mult (.lit (.int 2)) (.var 1)) (.lit (.int 1)))]
noncomputable def zC (Δ : Dl) : af → ae → Option (Bool × ae) := fun vars σ => aX Δ 194 (.cmp .Lt (.var 5) (.var 2)) vars σ
noncomputable def Gy (Δ : Dl) : af → ae → Option (aI × af × ae) := fun vars σ => aJ Δ 194 P8 vars σ
theorem yF {xs : List α} {ch : Nat} (h : ch < xs.length) : fN lt ch xs < xs.length := by
 unfold fN
 by_cases q : ch + 1 < xs.length ∧ lt (xs.getD ch default) (xs.getD (ch + 1) default) = false
 ·rw [if_pos q]; exact q.1
 ·rw [if_neg q]; exact h
theorem Ox {xs : List α} {ch : Nat} : ch ≤ fN lt ch xs := by
 unfold fN
 by_cases q : ch + 1 < xs.length ∧ lt (xs.getD ch default) (xs.getD (ch + 1) default) = false
 ·rw [if_pos q]; exact Nat.le_succ _
 ·rw [if_neg q]; exact Nat.le_refl _
theorem zD : ∀ (k pos : Nat) (xs : List α), pos < xs.length → (su lt k pos xs).1.length = xs.length ∧ (su lt k pos xs).2 < xs.length := @fun aa => @(match aa with
 | 0 => @fun pos xs h => ⟨rfl, h⟩
 | k + 1 => @fun pos xs h => by
  unfold su
  by_cases h0 : 2 * pos + 1 < xs.length
  ·rw [if_pos h0]
   have q := zD k (fN lt (2 * pos + 1) xs) (xs.set pos (xs.getD (fN lt (2 * pos + 1) xs) default)) (by rw [List.length_set]; exact yF h0)
   rw [List.length_set] at q
   exact q
  ·rw [if_neg h0]; exact ⟨rfl, h⟩)
theorem Qa (E : i5 enc lt) {x : D} {n pos ch : Nat} {xs : List α} (hn : xs.length = n) (hx : ch < xs.length) (hl : xs.length ≤ 900) : bK Δ 192 (.ite (.both (.cmp .Lt (.var 6) (.var 2)) (.not (.cmp .Lt (.idx (.var 0) (.var 5)) (.idx (.var 0) (.var 6))))) [.asg [(.var 5)] (.var 6)] []) (fj x n pos ch (some (.int (ch + 1 : Nat)))) [some (.lst (xs.map enc))] = some (.next, fj x n pos (fN lt ch xs) (some (.int (ch + 1 : Nat))), [some (.lst (xs.map enc))]) := by
 have sm : ∀ {i : Nat}, i < xs.length → small (i : Int) = true := fun h => gW (Nat.le_trans (Nat.le_of_lt h) (Nat.le_trans hl (by decide)))
 unfold fN
 by_cases h1 : ch + 1 < xs.length
 ·have c1 : aX Δ 190 (.cmp .Lt (.var 6) (.var 2)) (fj x n pos ch (some (.int (ch + 1 : Nat)))) [some (.lst (xs.map enc))] = some (true, [some (.lst (xs.map enc))]) := bU (a := .var 6) (b := .var 2) rfl rfl rfl rfl (show b8 .Lt (.int ((ch + 1 : Nat) : Int)) (.int (n : Nat)) = some true from congrArg some (decide_eq_true (Int.ofNat_lt.mpr (hn ▸ h1))))
  have c2 : aX Δ 189 (.cmp .Lt (.idx (.var 0) (.var 5)) (.idx (.var 0) (.var 6))) (fj x n pos ch (some (.int (ch + 1 : Nat)))) [some (.lst (xs.map enc))] = some (lt (xs.getD ch default) (xs.getD (ch + 1) default), [some (.lst (xs.map enc))]) := bU (bY (a := .var 0) (b := .var 5) rfl rfl rfl rfl (Int.natCast_nonneg _) (sm hx) (nA hx)) (bY (a := .var 0) (b := .var 6) rfl rfl rfl rfl (Int.natCast_nonneg _) (sm h1) (nA h1)) (uv (E.pure _)) (uv (E.pure _)) (A9 (E.lt _ _) (E.dep _))
  have c := zK c1 (uL c2)
  cases hq : lt (xs.getD ch default) (xs.getD (ch + 1) default) with
  | true =>
   rw [hq] at c
   rw [if_neg (fun q => Bool.noConfusion q.2)]
   exact gM c rfl
  | false =>
   rw [hq] at c
   rw [if_pos ⟨h1, rfl⟩]
   exact gO c rfl
 ·have c1 : aX Δ 190 (.cmp .Lt (.var 6) (.var 2)) (fj x n pos ch (some (.int (ch + 1 : Nat)))) [some (.lst (xs.map enc))] = some (false, [some (.lst (xs.map enc))]) := bU (a := .var 6) (b := .var 2) rfl rfl rfl rfl (show b8 .Lt (.int ((ch + 1 : Nat) : Int)) (.int (n : Nat)) = some false from congrArg some (decide_eq_false fun q => h1 (hn ▸ Int.ofNat_lt.mp q)))
  rw [if_neg (fun q => h1 q.1)]
  exact gM ((aP (k := fun (t : Bool) (σ : ae) => if t then aX Δ 190 (.not (.cmp .Lt (.idx (.var 0) (.var 5)) (.idx (.var 0) (.var 6)))) (fj x n pos ch (some (.int (ch + 1 : Nat)))) σ else some (false, σ)) c1).trans rfl) rfl
theorem Qc (E : i5 enc lt) {x : D} {n pos : Nat} {xs : List α} {x6 : Option D} (h1 : 2 * pos + 1 < xs.length) (hx : pos < xs.length) (hn : xs.length = n) (hl : n ≤ 900) :
  zC Δ (fj x n pos (2 * pos + 1) x6) [some (.lst (xs.map enc))] = some (true, [some (.lst (xs.map enc))]) ∧ Gy Δ (fj x n pos (2 * pos + 1) x6) [some (.lst (xs.map enc))] = some (.next, fj x n (fN lt (2 * pos + 1) xs) (2 * (fN lt (2 * pos + 1) xs) + 1) (some (.int (2 * pos + 1 + 1 : Nat))), [some (.lst ((xs.set pos (xs.getD (fN lt (2 * pos + 1) xs) default)).map enc))]) := by
 have sm : ∀ {i : Nat}, i < xs.length → small (i : Int) = true := fun h => gW (Nat.le_trans (Nat.le_of_lt h) (Nat.le_trans (hn ▸ hl) (by decide)))
 have hp := yF (lt := lt) h1
 have k2 := Qa (Δ := Δ) (x := x) (pos := pos) E hn h1 (hn ▸ hl)
 refine ⟨bU (a := .var 5) (b := .var 2) rfl rfl rfl rfl (show b8 .Lt (.int ((2 * pos + 1 : Nat) : Int)) (.int (n : Nat)) = some true from congrArg some (decide_eq_true (Int.ofNat_lt.mpr (hn ▸ h1)))), ?_⟩
 generalize fN lt (2 * pos + 1) xs = ch at *
 have k3 : bK Δ 191 (.dJ (.var 0) (.var 1) (.idx (.var 0) (.var 5))) (fj x n pos ch (some (.int (2 * pos + 1 + 1 : Nat)))) [some (.lst (xs.map enc))] = some (.next, fj x n pos ch (some (.int (2 * pos + 1 + 1 : Nat))), [some (.lst ((xs.set pos (xs.getD ch default)).map enc))]) := pM (o := .var 0) (i := .var 1) (bY (a := .var 0) (b := .var 5) rfl rfl rfl rfl (Int.natCast_nonneg _) (sm hp) (nA hp)) rfl rfl rfl (Int.natCast_nonneg _) (sm hx) (by rw [Int.toNat_natCast, List.length_map]; exact hx) (by rw [Int.toNat_natCast, ← List.map_set]; rfl)
 exact (bu (n := 193) (vars' := fj x n pos (2 * pos + 1) (some (.int (2 * pos + 1 + 1 : Nat)))) (σ' := [some (.lst (xs.map enc))]) rfl).trans ((bu k2).trans ((bu k3).trans ((bu (n := 190) (vars' := fj x n ch ch (some (.int (2 * pos + 1 + 1 : Nat)))) (σ' := [some (.lst ((xs.set pos (xs.getD ch default)).map enc))]) rfl).trans (cV (bR (d := .int ((2 * ch + 1 : Nat) : Int)) (aR (aR (a := .lit (.int 2)) (b := .var 1) rfl rfl (fW rfl)) (b := .lit (.int 1)) rfl rfl) rfl)))))
theorem GA {x : D} {n pos : Nat} {σ : ae} {x6 : Option D} (h1 : ¬ 2 * pos + 1 < n) : zC Δ (fj x n pos (2 * pos + 1) x6) σ = some (false, σ) :=
 bU (a := .var 5) (b := .var 2) rfl rfl rfl rfl (show b8 .Lt (.int ((2 * pos + 1 : Nat) : Int)) (.int (n : Nat)) = some false from congrArg some (decide_eq_false fun q => h1 (Int.ofNat_lt.mp q)))
theorem P9 {n p k ch : Nat} (h : n ≤ p + (k + 1)) (hc : 2 * p + 1 ≤ ch) : n ≤ ch + k := by lia
theorem Gz (E : i5 enc lt) {x : D} {n : Nat} (hl : n ≤ 900) : ∀ (k pos f : Nat) (xs : List α) (x6 : Option D), n ≤ pos + k → k ≤ f → pos < xs.length → xs.length = n → ∃ y6, eV (zC Δ) (Gy Δ) (f + 1) (fj x n pos (2 * pos + 1) x6) [some (.lst (xs.map enc))] = some (.next, fj x n (su lt k pos xs).2 (2 * (su lt k pos xs).2 + 1) y6, [some (.lst ((su lt k pos xs).1.map enc))]) := @fun aa ak aS => @(match aa, ak, aS with
 | 0, pos, f => @fun xs x6 hk hf hx hn => ⟨x6, uP (GA fun q => absurd hx (by lia))⟩
 | k + 1, pos, 0 => @fun xs x6 hk hf hx hn => absurd hf (Nat.not_succ_le_zero k)
 | k + 1, pos, f + 1 => @fun xs x6 hk hf hx hn => by
  unfold su
  by_cases h1 : 2 * pos + 1 < xs.length
  ·rw [if_pos h1]
   obtain ⟨t1, t2⟩ := Qc (Δ := Δ) (x := x) (x6 := x6) E h1 hx hn hl
   obtain ⟨y6, e⟩ := Gz E hl (x := x) k (fN lt (2 * pos + 1) xs) f (xs.set pos (xs.getD (fN lt (2 * pos + 1) xs) default)) (some (.int (2 * pos + 1 + 1 : Nat))) (P9 hk Ox) (Nat.le_of_succ_le_succ hf) (by rw [List.length_set]; exact yF h1) (by rw [List.length_set]; exact hn)
   exact ⟨y6, (zZ t1 t2).trans e⟩
  ·rw [if_neg h1]
   exact ⟨x6, uP (GA (hn ▸ h1))⟩)
theorem QJ (E : i5 enc lt) (h2 : ∀ xs ds, Δ.muts 2 xs ds = eR qW 200 pV xs ds) {xs : List α} (hx : 0 < xs.length) (hl : xs.length ≤ 900) : eR Δ 200 pW (xs.map enc) [.int 0] = some (.none, (qI lt xs).map enc) := by
 have pe : ∀ ys : List α, D.aL (ys.map enc) = true := fun ys => gC enc E.pure ys
 obtain ⟨y6, e⟩ := Gz (Δ := Δ) (x := enc (xs.getD 0 default)) E hl xs.length 0 999 xs none (Nat.le_of_eq (Nat.zero_add _).symm) (Nat.le_trans hl (by decide)) hx rfl
 have q := zD (lt := lt) xs.length 0 xs hx
 have hlen : ah Δ 198 (.bi .len [(.var 0)]) (cZ pW [.loc 0, .int 0]) [some (.lst (xs.map enc))] = some (.int (xs.length : Nat), [some (.lst (xs.map enc))]) := by
  have e := lN (Δ := Δ) (n := 196) (a := .var 0) (vars := cZ pW [.loc 0, .int 0]) (σ := [some (.lst (xs.map enc))]) rfl (jW rfl) (by rw [List.length_map]; exact Nat.le_trans hl (by decide))
  rw [List.length_map] at e
  exact e
 unfold qI
 generalize su lt xs.length 0 xs = r at *
 have zq : small (r.2 : Int) = true := gW (Nat.le_trans (Nat.le_of_lt q.2) (Nat.le_trans hl (by decide)))
 have hr : r.2 < (r.1.set r.2 (xs.getD 0 default)).length := by rw [List.length_set, q.1]; exact q.2
 refine qE (r := some (.next, fj (enc (xs.getD 0 default)) xs.length r.2 (2 * r.2 + 1) y6, [some (.lst ((kU lt r.2 (r.1.set r.2 (xs.getD 0 default))).map enc))])) (σ := [some (.lst ((kU lt r.2 (r.1.set r.2 (xs.getD 0 default))).map enc))]) rfl rfl (pe _) ?_ rfl rfl rfl (pe _)
 refine (bu (bR hlen rfl)).trans ((bu (n := 198) (vars' := [some (.loc 0), some (.int 0), some (.int (xs.length : Nat)), some (.int 0), none, none, none, none, none]) (σ' := [some (.lst (xs.map enc))]) rfl).trans ((bu (bR (bY (a := .var 0) (b := .var 1) (k := 0) rfl rfl rfl rfl (Int.le_refl 0) rfl (nA hx)) rfl)).trans ((bu (n := 196) (vars' := fj (enc (xs.getD 0 default)) xs.length 0 1 none) (σ' := [some (.lst (xs.map enc))]) rfl).trans ((bu (BU e)).trans ((bu (pM (e := .var 4) (o := .var 0) (i := .var 1) rfl rfl rfl rfl (Int.natCast_nonneg _) zq (by rw [Int.toNat_natCast, List.length_map, q.1]; exact q.2) (by rw [Int.toNat_natCast, ← List.map_set]))).trans (cV (lP (pJ (l := 0) (o := .var 0) (ds := [.int 0, .int (r.2 : Nat)]) rfl rfl rfl rfl (pe _) ((h2 _ _).trans (Bk E hr (by rw [List.length_set, q.1]; exact hl))) rfl))))))))
theorem Jj {n l : Nat} {o : E} {vars : af} {σ σ1 : ae} {ys : List D} {y : D} (h : ah Δ n o vars σ = some (.loc l, σ1)) (hl : σ1[l]? = some (some (.lst ys))) (hz : ys.length ≤ az) (hy : ys.getLast? = some y) : ah Δ (n + 1) (.pop o) vars σ = some (y, σ1.set l (some (.lst ys.dropLast))) :=
 (aP (k := yP) h).trans (by
  show (iU σ1 (.loc l)).bind _ = _
  rw [tX hl]
  show (if ys.length ≤ az then ys.getLast?.map _ else none) = _
  rw [if_pos hz, hy]; rfl)
theorem MV (a b : α) (r : List α) : ((a :: b :: r).map enc).getLast? = some (enc ((a :: b :: r).getD ((a :: b :: r).length - 1) default)) := by
 rw [List.getLast?_eq_getElem?, List.length_map, List.getElem?_map, List.getD_eq_getElem?_getD]
 show (((b :: r)[r.length]?).map enc) = some (enc (((b :: r)[r.length]?).getD default))
 rw [List.getElem?_eq_getElem (show r.length < (b :: r).length from Nat.lt_succ_self _)]; rfl
theorem OE {iH : Dl} (E : i5 enc lt) (h3 : ∀ xs ds, Δ.muts 3 xs ds = eR qW 200 pW xs ds) (h2 : ∀ xs ds, qW.muts 2 xs ds = eR iH 200 pV xs ds) {xs : List α} (hx : 0 < xs.length) (hl : xs.length ≤ 900) : eR Δ 200 jd (xs.map enc) [] = some (enc (gQ lt xs).1, (gQ lt xs).2.map enc) := by
 have pe : ∀ ys : List α, D.aL (ys.map enc) = true := fun ys => gC enc E.pure ys
 unfold gQ
 match xs, hx, hl with
 | [a], _, _ => exact OC (E.pure a)
 | a :: b :: r, _, hl =>
  rw [if_neg (by show ¬ r.length + 1 + 1 ≤ 1; lia)]
  have hz : ((a :: b :: r).map enc).length ≤ az := by rw [List.length_map]; exact Nat.le_trans hl (by decide)
  have hd : ((b :: r).dropLast).length = r.length := List.length_dropLast
  have ee : r.length + 1 ≤ 900 := Nat.le_of_succ_le hl
  have el := MV (enc := enc) a b r
  generalize (a :: b :: r).getD ((a :: b :: r).length - 1) default = x at el
  refine OD (a := enc a) (x := enc x) (r0 := ((b :: r).dropLast).map enc) ?_ ?_ ?_ (pe _) (pe (x :: (b :: r).dropLast)) (E.pure a) (pe _)
  ·have e := bu (ss := jd.body.tail) (bR (vars := cZ jd [.loc 0]) (i := 1) (Jj (Δ := Δ) (n := 197) (o := .var 0) (l := 0) (σ1 := [some (.lst ((a :: b :: r).map enc))]) rfl rfl hz el) rfl)
   refine e.trans ?_
   rw [show ((a :: b :: r).map enc).dropLast = enc a :: ((b :: r).dropLast).map enc from congrArg (enc a :: ·) (List.map_dropLast (f := enc) (l := b :: r)).symm]; rfl
  ·show ((b :: r).dropLast.map enc).length + 1 ≤ az
   rw [List.length_map, hd]; exact Nat.le_trans ee (by decide)
  ·exact (h3 _ _).trans (QJ (xs := x :: (b :: r).dropLast) E h2 (Nat.succ_pos _) (by show (b :: r).dropLast.length + 1 ≤ 900; rw [hd]; exact ee))
end
end Ev
end
section
namespace Ev
open PySem
noncomputable abbrev I5 := Fin 5
noncomputable def aY : List I5 := [0, 1, 2, 3, 4]
noncomputable def DZ (a b : Nat) : Nat := a * (9 - a) / 2 + (b - a - 1)
noncomputable def yb (t : List Bool) (a b : I5) : Bool := if a < b then t.getD (DZ a b) false else if b < a then !t.getD (DZ b a) false else false
noncomputable def vo (lt : I5 → I5 → Bool) : List Bool := [lt 0 1, lt 0 2, lt 0 3, lt 0 4, lt 1 2, lt 1 3, lt 1 4, lt 2 3, lt 2 4, lt 3 4]
noncomputable def rK : Nat → List (List Bool) := @fun aa => match aa with
 | 0 => [[]]
 | n + 1 => (rK n).map (true :: ·) ++ (rK n).map (false :: ·)
theorem ye : ∀ t : List Bool, t ∈ rK t.length := @fun aa => match aa with
 | [] => List.mem_singleton.mpr rfl
 | true :: t => List.mem_append_left _ (List.mem_map_of_mem (ye t))
 | false :: t => List.mem_append_right _ (List.mem_map_of_mem (ye t))
structure rF (lt : I5 → I5 → Bool) : Prop where
 irr : ∀ a, lt a a = false
 asym : ∀ a b, a < b → lt b a = !lt a b
 trans : ∀ a b c, lt a b = true → lt b c = true → lt a c = true
theorem BZ (a : I5) : a = 0 ∨ a = 1 ∨ a = 2 ∨ a = 3 ∨ a = 4 := by revert a; decide
theorem Nt {lt : I5 → I5 → Bool} (O : rF lt) : yb (vo lt) = lt := by
 funext a b
 rcases BZ a with rfl | rfl | rfl | rfl | rfl <;> rcases BZ b with rfl | rfl | rfl | rfl | rfl <;> first | rfl | exact (O.irr _).symm | exact (O.asym _ _ (by decide)).symm
noncomputable def mL {α : Type} [Inhabited α] (lt : α → α → Bool) : Nat → List α → List α × List α := @fun aa ak => match aa, ak with
 | 0, h => ([], h)
 | k + 1, h => ((gQ lt h).1 :: (mL lt k (gQ lt h).2).1, (mL lt k (gQ lt h).2).2)
noncomputable def lW (lt : I5 → I5 → Bool) (m : Nat) : List I5 := (aY.take m).foldl (kE lt) []
noncomputable def GQ (lt : I5 → I5 → Bool) : Bool := aY.all fun a => aY.all fun b => !lt a b || aY.all fun c => !lt b c || lt a c
noncomputable def xX (lt : I5 → I5 → Bool) (l : List I5) (i j : Nat) : Option Bool := l[i]?.bind fun a => l[j]?.bind fun b => if a = b then none else some (lt a b)
noncomputable def lH (lt : I5 → I5 → Bool) (l : List I5) : Option (List I5) := (gZ (xX lt l) (PySem.W.kas_sort l.length)).bind fun p => if p.toList.all (fun i => decide (i < l.length)) then some (p.toList.map fun i => l.getD i 0) else none
noncomputable def mU (lt : I5 → I5 → Bool) : List I5 → Bool := @fun aa => match aa with
 | a :: b :: r => lt a b && mU lt (b :: r)
 | υ1 => true
noncomputable def qG (x : List I5) : Option (List I5) → Bool := @fun aa => match aa with
 | some y => y == x
 | none => false
noncomputable def ez (lt : I5 → I5 → Bool) (m : Nat) : List I5 := (mL lt m (lW lt m)).1
noncomputable def xw (a b : I5) : Bool := decide (a < b)
noncomputable def CG (lt : I5 → I5 → Bool) (m : Nat) : Bool := ((mL lt m (lW lt m)).2.isEmpty && (ez lt m).length == m) && ((aY.take m).all (fun a => (ez lt m).contains a) && ((ez lt m).all (fun a => (aY.take m).contains a) && mU lt (ez lt m))) && (m == 1 || (qG (ez lt m) (lH lt (aY.take m)) && qG (aY.take m) (lH xw (ez lt m))))
theorem allB {f : List Bool → Bool} {n : Nat} (h : ((rK n).all fun t => f (true :: t)) = true) (g : ((rK n).all fun t => f (false :: t)) = true) : (rK (n + 1)).all f = true :=
 List.all_append.trans (congr (congrArg and (List.all_map.trans h)) (List.all_map.trans g))
noncomputable def orderT (t : List Bool) : Bool := !GQ (yb t) || [1, 2, 3, 4, 5].all (CG (yb t))
theorem heapA : ((rK 8).all fun t => orderT (true :: true :: t)) = true := by decide +kernel
theorem heapB : ((rK 8).all fun t => orderT (true :: false :: t)) = true := by decide +kernel
theorem heapC : ((rK 8).all fun t => orderT (false :: true :: t)) = true := by decide +kernel
theorem heapD : ((rK 8).all fun t => orderT (false :: false :: t)) = true := by decide +kernel
theorem Kw : ((rK 10).all fun t => !GQ (yb t) || [1, 2, 3, 4, 5].all (CG (yb t))) = true := allB (f := orderT) (allB heapA heapB) (allB heapC heapD)
theorem GR {α : Type} {l1 l2 : Nat → Nat → Option Bool} (h : ∀ i j b, l1 i j = some b → l2 i j = some b) : ∀ (t : PySem.W.KasT α) {a : α}, gZ l1 t = some a → gZ l2 t = some a := @fun aa => @(match aa with
 | .ret υ1 => @fun ξ e => e
 | .ask i j k => @fun a e => by
  obtain ⟨b, e1, e2⟩ := Option.bind_eq_some_iff.mp (show (l1 i j).bind (fun b => gZ l1 (k b)) = some a from e)
  show (l2 i j).bind (fun b => gZ l2 (k b)) = some a
  rw [h i j b e1]
  exact GR h (k b) e2)
end Ev
end
section
namespace Ev
open PySem
theorem lQ {x : UInt64} (h : cE x = true) : ∃ a m e, Float64.decode x = .fin a m e := by
 unfold cE at h
 cases hd : Float64.decode x with
 | fin a m e => exact ⟨a, m, e, rfl⟩
 | nan => rw [hd] at h; exact ai h
 | inf s => rw [hd] at h; exact ai h
theorem ua {x : UInt64} (h : cE x = true) : Float64.isNaN x = false := by
 obtain ⟨a, m, e, q⟩ := lQ h
 unfold Float64.isNaN; rw [q]
theorem rV {x y : UInt64} (hx : cE x = true) (hy : cE y = true) : Float64.cmp x y = some (compare (Float64.val x) (Float64.val y)) := by
 obtain ⟨a, m, e, q⟩ := lQ hx
 obtain ⟨b, k, f, r⟩ := lQ hy
 exact Float64.cmp_right q r
theorem Jx {x y : UInt64} (hx : cE x = true) (hy : cE y = true) : dR x y = some (decide (Float64.val x = Float64.val y)) := by
 unfold dR
 rw [ua hx, ua hy, rV hx hy]
 refine congrArg some ?_
 rcases Int.lt_trichotomy (Float64.val x) (Float64.val y) with h | h | h
 ·rw [Int.compare_eq_lt.mpr h, decide_eq_false (Int.ne_of_lt h)]; rfl
 ·rw [Int.compare_eq_eq.mpr h, decide_eq_true h]; rfl
 ·rw [Int.compare_eq_gt.mpr h, decide_eq_false (Int.ne_of_gt h)]; rfl
theorem Jz {x y : UInt64} (hx : cE x = true) (hy : cE y = true) : nM x y = some (decide (Float64.val x < Float64.val y)) := by
 unfold nM
 rw [ua hx, ua hy, rV hx hy]
 refine congrArg some ?_
 rcases Int.lt_trichotomy (Float64.val x) (Float64.val y) with h | h | h
 ·rw [Int.compare_eq_lt.mpr h, decide_eq_true h]; rfl
 ·rw [Int.compare_eq_eq.mpr h, decide_eq_false (Int.not_lt.mpr (Int.le_of_eq h.symm))]; rfl
 ·rw [Int.compare_eq_gt.mpr h, decide_eq_false (Int.not_lt.mpr (Int.le_of_lt h))]; rfl
noncomputable def aD.P (c : aD) : Int := if c.wide > 0 then c.place else 0
noncomputable def aD.W (c : aD) : Int := if c.wide > 0 then c.wide else 1
noncomputable def aD.pos (c : aD) : Int := c.P * (LL / c.W)
noncomputable def aD.bC (c : aD) : UInt64 := gu c.P c.W
noncomputable def aD.share (c : aD) : UInt64 := if c.wide > 0 then frac c.wide c.top else 0
noncomputable def oH (c : aD) (i : Int) : D := .tup [.flt c.bC, .int i, .flt c.share, .flt (aF c.top)]
structure PW (c : aD) : Prop where
 w0 : 0 < c.W
 qQ : c.W ≤ 27
 p0 : 0 ≤ c.P
 p6 : c.P < 6 * c.W
theorem qD {c : aD} (h : bq c) : PW c := by
 by_cases h0 : c.wide > 0
 ·have s := uy h h0
  have q := jC (qR h h0)
  refine ⟨?_, ?_, ?_, ?_⟩
  ·unfold aD.W; rw [if_pos h0]; exact h0
  ·unfold aD.W; rw [if_pos h0]; exact q.2
  ·unfold aD.P; rw [if_pos h0]; exact s.p0
  ·unfold aD.P aD.W; rw [if_pos h0, if_pos h0]; exact s.p6
 ·refine ⟨?_, ?_, ?_, ?_⟩
  ·unfold aD.W; rw [if_neg h0]; decide
  ·unfold aD.W; rw [if_neg h0]; decide
  ·unfold aD.P; rw [if_neg h0]; decide
  ·unfold aD.P aD.W; rw [if_neg h0, if_neg h0]; decide
theorem jR {c : aD} (h : bq c) : Ag c.P c.W := let q := qD h; Lv q.w0 q.qQ q.p0 q.p6
theorem J4 : gu 0 1 = 0 := by decide +kernel
theorem C6 {c : aD} (h0 : ¬ c.wide > 0) : c.bC = 0 := by unfold aD.bC aD.P aD.W; rw [if_neg h0, if_neg h0]; exact J4
structure j5 (h : UInt64) (p : Int) : Prop where
 fin : cE h = true
 lo : 256 * (p * SS) - SS ≤ 256 * (6 * LL * Float64.val h)
 hi : 256 * (6 * LL * Float64.val h) ≤ 256 * (p * SS) + SS
theorem EN {h : UInt64} {p : Int} (e : yj h p = true) : j5 h p := let q := aj e; let r := aj q.2; ⟨q.1, of_decide_eq_true r.1, of_decide_eq_true r.2⟩
theorem dX {c : aD} (h : bq c) : j5 c.bC c.pos := EN (jR h).near
theorem j6 : 0 < SS := by decide +kernel
theorem yh {p q : Int} (h : p < q) : p * SS + SS ≤ q * SS := by
 have r := Int.mul_le_mul_of_nonneg_right (Int.add_one_le_of_lt h) (Int.le_of_lt j6)
 rw [Int.add_mul, Int.one_mul] at r
 exact r
theorem Eu {x y : Int} (h : 6 * LL * x < 6 * LL * y) : x < y := Int.lt_of_mul_lt_mul_left h (by decide)
theorem oQ {h k : UInt64} {p q : Int} (H : j5 h p) (K : j5 k q) (qf : p < q) : Float64.val h < Float64.val k := by
 have a := H.hi
 have b := K.lo
 have c := yh qf
 have d := j6
 refine Eu ?_
 generalize p * SS = x at *
 generalize q * SS = y at *
 generalize 6 * LL * Float64.val h = u at *
 generalize 6 * LL * Float64.val k = v at *
 generalize SS = s at *
 lia
theorem yS {c d : aD} (hc : bq c) (hd : bq d) (e : c.pos = d.pos) : c.bC = d.bC := (jR hc).can.trans ((congrArg tw e).trans (jR hd).can.symm)
theorem Jd {c d : aD} (hc : bq c) (hd : bq d) : dR c.bC d.bC = some (decide (c.pos = d.pos)) := by
 rw [Jx (dX hc).fin (dX hd).fin]
 refine congrArg some (decide_eq_decide.mpr ⟨fun e => ?_, fun e => by rw [yS hc hd e]⟩)
 rcases Int.lt_trichotomy c.pos d.pos with h | h | h
 ·exact absurd e (Int.ne_of_lt (oQ (dX hc) (dX hd) h))
 ·exact h
 ·exact absurd e (Int.ne_of_gt (oQ (dX hd) (dX hc) h))
theorem Nu {c d : aD} (hc : bq c) (hd : bq d) : nM c.bC d.bC = some (decide (c.pos < d.pos)) := by
 rw [Jz (dX hc).fin (dX hd).fin]
 refine congrArg some (decide_eq_decide.mpr ⟨fun e => ?_, fun e => oQ (dX hc) (dX hd) e⟩)
 rcases Int.lt_trichotomy c.pos d.pos with h | h | h
 ·exact h
 ·exact absurd e (by rw [yS hc hd h]; exact Int.lt_irrefl _)
 ·exact absurd e (Int.not_lt.mpr (Int.le_of_lt (oQ (dX hd) (dX hc) h)))
theorem share_eq {c : aD} (h : bq c) : dR c.share c.share = some true := by
 unfold aD.share
 by_cases h0 : c.wide > 0
 ·rw [if_pos h0]; exact (pU (qR h h0) h.top (Int.lt_of_lt_of_le h0 (jY h)) (jY h)).eq
 ·rw [if_neg h0]; decide +kernel
theorem top_eq {c : aD} (h : bq c) : dR (aF c.top) (aF c.top) = some true := (kY h.top h.top).eq.trans (congrArg some (beq_self_eq_true _))
theorem tY {a b : D} {as bs : List D} (h : aM a b = some true) : gU (a :: as) (b :: bs) = gU as bs := by
 show ((aM a b).bind fun p => if p then gU as bs else eu a b) = _
 rw [h]; rfl
theorem Eo {a b : D} {as bs : List D} (h : aM a b = some false) : gU (a :: as) (b :: bs) = eu a b := by
 show ((aM a b).bind fun p => if p then gU as bs else eu a b) = _
 rw [h]; rfl
theorem Pa {c d : aD} {i j : Int} (hc : bq c) (hd : bq d) (fT : i = j → c = d) : eu (oH c i) (oH d j) = some (decide (c.pos < d.pos ∨ c.pos = d.pos ∧ i < j)) := by
 show gU [.flt c.bC, .int i, .flt c.share, .flt (aF c.top)] [.flt d.bC, .int j, .flt d.share, .flt (aF d.top)] = _
 have e := Jd hc hd
 by_cases h : c.pos = d.pos
 ·rw [decide_eq_true h] at e
  rw [tY (show aM (.flt c.bC) (.flt d.bC) = some true from e)]
  by_cases q : i = j
  ·obtain rfl := fT q
   rw [tY (show aM (.int i) (.int j) = some true from congrArg some (beq_iff_eq.mpr q)), tY (show aM (.flt c.share) (.flt c.share) = some true from share_eq hc), tY (show aM (.flt (aF c.top)) (.flt (aF c.top)) = some true from top_eq hc)]
   exact congrArg some (decide_eq_false (by rw [q]; exact fun r => r.elim (Int.lt_irrefl _) fun r => Int.lt_irrefl _ r.2)).symm
  ·rw [Eo (show aM (.int i) (.int j) = some false from congrArg some (beq_eq_false_iff_ne.mpr q))]
   exact congrArg some (decide_eq_decide.mpr ⟨fun r => .inr ⟨h, r⟩, fun r => r.elim (fun r => absurd h (Int.ne_of_lt r)) fun r => r.2⟩)
 ·rw [decide_eq_false h] at e
  rw [Eo (show aM (.flt c.bC) (.flt d.bC) = some false from e)]
  exact (Nu hc hd).trans (congrArg some (decide_eq_decide.mpr ⟨.inl, fun r => r.elim id fun r => absurd r.1 h⟩))
end Ev
end
section
namespace Ev
open PySem
theorem fu : 0 < LL := by decide
theorem yR {c : aD} (h : bq c) : c.pos * c.W = c.P * LL := by
 show c.P * (LL / c.W) * c.W = _
 rw [Int.mul_assoc, (jR h).lw]
theorem EE {q W V Q : Int} (h : q * V = Q * LL) : q * (W * V) = Q * W * LL := by
 rw [Int.mul_comm W V, ← Int.mul_assoc, h, Int.mul_assoc, Int.mul_comm LL W, ← Int.mul_assoc]
theorem sep {p q W V P Q t : Int} (hp : p * W = P * LL) (hq : q * V = Q * LL) (w0 : 0 < W) (qQ : W ≤ 27) (v0 : 0 < V) (QM : V ≤ 27) (h : 0 < q - p + t * LL) : LL ≤ (q - p + t * LL) * 729 := by
 have wv : 0 < W * V := Int.mul_pos w0 v0
 have e : (q - p + t * LL) * (W * V) = (Q * W - P * V + t * (W * V)) * LL := by
  rw [Int.add_mul, Int.sub_mul, Int.add_mul, Int.sub_mul, EE hq, Int.mul_comm W V, EE hp, Int.mul_assoc t LL, Int.mul_comm LL, ← Int.mul_assoc]
 have QO : W * V ≤ 27 * 27 := Int.mul_le_mul qQ QM (Int.le_of_lt v0) (by decide)
 have x := Int.mul_pos h wv
 have y := Int.mul_le_mul_of_nonneg_left QO (Int.le_of_lt h)
 rw [e] at x y
 have n : 0 < Q * W - P * V + t * (W * V) := Int.lt_of_mul_lt_mul_right (by rw [Int.zero_mul]; exact x) (Int.le_of_lt fu)
 have z := Int.mul_le_mul_of_nonneg_right (Int.add_one_le_of_lt n) (Int.le_of_lt fu)
 rw [Int.zero_add, Int.one_mul] at z
 exact Int.le_trans z y
theorem ud {c : aD} (h : bq c) : c.order = c.pos * 2000 / LL := by
 have w := qD h
 have e : c.order = (c.P * 2000).fdiv c.W := by
  unfold aD.order aD.P aD.W
  by_cases h0 : c.wide > 0
  ·rw [if_pos h0, if_pos h0, if_pos h0]
  ·rw [if_neg h0, if_neg h0, if_neg h0]; rfl
 have k0 : 0 < LL / c.W := Int.pos_of_mul_pos_left (by rw [(jR h).lw]; exact fu) w.w0
 rw [e, Int.fdiv_eq_ediv_of_nonneg _ (Int.le_of_lt w.w0)]
 conv => rhs; rw [← (jR h).lw]
 show _ = c.P * (LL / c.W) * 2000 / _
 rw [show c.P * (LL / c.W) * 2000 = LL / c.W * (c.P * 2000) from (congrArg (· * 2000) (Int.mul_comm _ _)).trans (Int.mul_assoc _ _ _), Int.mul_ediv_mul_of_pos _ _ k0]
theorem I1 {p q : Int} (h : p < q) (hs : LL ≤ (q - p) * 729) : p * 2000 / LL < q * 2000 / LL := by
 have e : (p * 2000 + LL) / LL = p * 2000 / LL + 1 := Int.add_ediv_of_dvd_right (Int.dvd_refl LL) |>.trans (by rw [Int.ediv_self (Int.ne_of_gt fu)])
 have m : (p * 2000 + LL) / LL ≤ q * 2000 / LL := Int.ediv_le_ediv fu (by have := fu; lia)
 rw [e] at m
 exact Int.lt_of_add_one_le m
theorem Fg {c d : aD} (hc : bq c) (hd : bq d) {t : Int} (h : 0 < d.pos - c.pos + t * LL) : LL ≤ (d.pos - c.pos + t * LL) * 729 :=
 let w := qD hc
 let v := qD hd
 sep (yR hc) (yR hd) w.w0 w.qQ v.w0 v.qQ h
theorem Fb {c d : aD} (hc : bq c) (hd : bq d) (h : c.pos < d.pos) : c.order < d.order := by
 rw [ud hc, ud hd]
 have q := Fg (t := 0) hc hd (by rw [Int.zero_mul, Int.add_zero]; exact Int.sub_pos_of_lt h)
 rw [Int.zero_mul, Int.add_zero] at q
 exact I1 h q
theorem Oo {c d : aD} (hc : bq c) (hd : bq d) : (c.order < d.order ↔ c.pos < d.pos) ∧ (c.order = d.order ↔ c.pos = d.pos) := by
 rcases Int.lt_trichotomy c.pos d.pos with h | h | h
 ·have q := Fb hc hd h
  exact ⟨⟨fun ξ => h, fun ξ => q⟩, ⟨fun e => absurd e (Int.ne_of_lt q), fun e => absurd e (Int.ne_of_lt h)⟩⟩
 ·have q : c.order = d.order := by rw [ud hc, ud hd, h]
  exact ⟨⟨fun e => absurd (q ▸ e) (Int.lt_irrefl _), fun e => absurd (h ▸ e) (Int.lt_irrefl _)⟩, ⟨fun ξ => h, fun ξ => q⟩⟩
 ·have q := Fb hd hc h
  exact ⟨⟨fun e => absurd e (Int.not_lt.mpr (Int.le_of_lt q)), fun e => absurd e (Int.not_lt.mpr (Int.le_of_lt h))⟩, ⟨fun e => absurd e (Int.ne_of_gt q), fun e => absurd e (Int.ne_of_gt h)⟩⟩
noncomputable def eS : Int := Int.ofNat (2 ^ 1022)
theorem Ht : SS = 4503599627370496 * eS := by decide +kernel
theorem Pk : 0 < eS := by decide +kernel
theorem As (w t tc : Nat) (h : Float64.dist w (1 * Float64.V t) ≤ Float64.dist w (1 * Float64.V tc)) : (w ≤ Float64.V tc → Float64.V t ≤ Float64.V tc) ∧ (Float64.V tc ≤ w → Float64.V tc ≤ Float64.V t) := by
 unfold Float64.dist at h
 rw [Nat.one_mul, Nat.one_mul] at h
 generalize Float64.V t = v at *
 generalize Float64.V tc = c at *
 refine ⟨fun q => ?_, fun q => ?_⟩
 ·rw [Nat.sub_eq_zero_of_le q, Nat.zero_add] at h
  exact Nat.le_of_sub_le_sub_right q (Nat.le_trans (Nat.le_add_left ..) h)
 ·rw [Nat.sub_eq_zero_of_le q, Nat.add_zero] at h
  exact Nat.le_of_sub_le_sub_left q (Nat.le_trans (Nat.le_add_right ..) h)
structure oY (g : UInt64) (w : Int) : Prop where
 fin : cE g = true
 le : ∀ tc : Nat, w ≤ (Float64.V tc : Nat) → Float64.val g ≤ (Float64.V tc : Nat)
 ge : ∀ tc : Nat, (Float64.V tc : Nat) ≤ w → (Float64.V tc : Nat) ≤ Float64.val g
theorem JD {t : Nat} (h : t < Float64.infMag) : cE (Float64.pack false t) = true := by
 obtain ⟨m, e, q, _⟩ := Float64.decode_pack false h
 unfold cE; rw [q]
theorem Ly : ¬ ((1 * ((2 ^ 54 - 1) * 2 ^ 2045) : Nat) : Int) ≤ 2 * (4 * SS) := by decide +kernel
theorem FO {g : UInt64} {w : Int} (h0 : 0 ≤ w) (h4 : w ≤ 4 * SS) (r : Float64.Right g false w.natAbs 1) : oY g w := by
 obtain ⟨t, rfl, t1, t2, t3⟩ := r
 have tn : t < Float64.infMag := Nat.lt_of_le_of_ne t1 fun q => Ly (by
  have q := Int.ofNat_le.mpr (t2.mp q)
  rw [Int.natCast_mul 2, Int.natAbs_of_nonneg h0] at q
  exact Int.le_trans q (Int.mul_le_mul_of_nonneg_left h4 (by decide)))
 have v : Float64.val (Float64.pack false t) = (Float64.V t : Nat) := Float64.val_pack false tn
 obtain ⟨n, rfl⟩ := Int.eq_ofNat_of_zero_le h0
 refine ⟨JD tn, fun tc h => ?_, fun tc h => ?_⟩
 ·rw [v]; exact Int.ofNat_le.mpr ((As _ t tc (t3 tn tc).1).1 (Int.ofNat_le.mp h))
 ·rw [v]; exact Int.ofNat_le.mpr ((As _ t tc (t3 tn tc).1).2 (Int.ofNat_le.mp h))
theorem Q4 {a : Bool} : oY (Float64.zero a) 0 := by
 have v : Float64.val (Float64.zero a) = 0 := by cases a <;> decide +kernel
 refine ⟨by cases a <;> decide +kernel, fun tc h => ?_, fun tc h => ?_⟩
 ·rw [v]; exact Int.natCast_nonneg _
 ·rw [v]; exact h
theorem Qf {x y : UInt64} (hx : cE x = true) (hy : cE y = true) (h0 : Float64.val y ≤ Float64.val x) (h4 : Float64.val x - Float64.val y ≤ 4 * SS) : oY (Float64.sub x y) (Float64.val x - Float64.val y) := by
 obtain ⟨a, m, e, q⟩ := lQ hx
 obtain ⟨b, k, f, r⟩ := lQ hy
 obtain ⟨z, nz⟩ := Float64.sub_right q r
 by_cases hz : Float64.val x - Float64.val y = 0
 ·rw [z hz, hz]; exact Q4
 ·have n := nz hz
  rw [decide_eq_false (Int.not_lt.mpr (Int.sub_nonneg_of_le h0))] at n
  exact FO (Int.sub_nonneg_of_le h0) h4 n
theorem HC {x y : UInt64} (hx : cE x = true) (hy : cE y = true) (h0 : 0 < Float64.val x + Float64.val y) (h4 : Float64.val x + Float64.val y ≤ 4 * SS) : oY (Float64.add x y) (Float64.val x + Float64.val y) := by
 obtain ⟨a, m, e, q⟩ := lQ hx
 obtain ⟨b, k, f, r⟩ := lQ hy
 have n := (Float64.add_right q r).2 (Int.ne_of_gt h0)
 rw [decide_eq_false (Int.not_lt.mpr (Int.le_of_lt h0))] at n
 exact FO (Int.le_of_lt h0) h4 n
end Ev
end
section
namespace Ev
open PySem
structure jw (h : UInt64) (p τ : Int) : Prop where
 fin : cE h = true
 lo : 256 * (p * SS) - τ * SS ≤ 256 * (6 * LL * Float64.val h)
 hi : 256 * (6 * LL * Float64.val h) ≤ 256 * (p * SS) + τ * SS
theorem j5.t {h : UInt64} {p : Int} (H : j5 h p) : jw h p 1 := ⟨H.fin, by rw [Int.one_mul]; exact H.lo, by rw [Int.one_mul]; exact H.hi⟩
noncomputable abbrev f1 : UInt64 := 4607182418800017408
theorem Oe : cE f1 = true := by decide +kernel
theorem yz : Float64.val f1 = SS := by decide +kernel
theorem lows : (1536 : Int) * LL * eS ≤ SS := by decide +kernel
theorem Hx {q : Nat} (h : q ≤ 2 ^ 53) (h2 : 2 ^ 52 ≤ q) : ((Float64.V (1022 * 2 ^ 52 + q) : Nat) : Int) = q * eS := by
 rw [Float64.V_at h (.inl h2), Int.natCast_mul]; rfl
theorem NP {g : UInt64} {w : Int} (r : oY g w) (h1 : SS ≤ w) (h2 : w < 2 * SS) : w - eS ≤ Float64.val g ∧ Float64.val g ≤ w + eS := by
 have s0 := Pk
 have e := Ht
 have m := Int.emod_add_mul_ediv w eS
 have m0 := Int.emod_nonneg w (Int.ne_of_gt s0)
 have m1 := Int.emod_lt_of_pos w s0
 have q1 : 4503599627370496 ≤ w / eS := (Int.le_ediv_iff_mul_le s0).mpr (by rw [← e]; exact h1)
 have q2 : w / eS < 9007199254740992 := Int.ediv_lt_of_lt_mul s0 (by rw [e] at h2; lia)
 obtain ⟨q, hq⟩ := Int.eq_ofNat_of_zero_le (Int.le_trans (by decide) q1)
 rw [hq] at m q1 q2
 have a := r.ge (1022 * 2 ^ 52 + q)
 have b := r.le (1022 * 2 ^ 52 + (q + 1))
 rw [Hx (by lia) (by lia)] at a b
 rw [Int.natCast_add, Int.add_mul] at b
 rw [Int.mul_comm] at m
 generalize (q : Int) * eS = x at *
 generalize w % eS = y at *
 have b1 : ((1 : Nat) : Int) * eS = eS := Int.one_mul _
 rw [b1] at b
 generalize eS = s at *
 lia
theorem EO {h : UInt64} {p : Int} (H : j5 h p) (v0 : 0 ≤ Float64.val h) (p6 : p < 6 * LL) : jw (Float64.add h f1) (p + 6 * LL) 2 := by
 have a := H.lo
 have b := H.hi
 have s0 := j6
 have c := yh p6
 have w2 : Float64.val h < SS := Eu (by
  generalize 6 * LL * Float64.val h = u at *
  generalize p * SS = x at *
  generalize 6 * LL * SS = y at *
  lia)
 have r := HC H.fin Oe (by rw [yz]; lia) (by rw [yz]; lia)
 rw [yz] at r
 have n := NP r (by lia) (by lia)
 have l := lows
 have e : 6 * LL * (Float64.val h + SS - eS) ≤ 6 * LL * Float64.val (Float64.add h f1) := Int.mul_le_mul_of_nonneg_left n.1 (by decide)
 have f : 6 * LL * Float64.val (Float64.add h f1) ≤ 6 * LL * (Float64.val h + SS + eS) := Int.mul_le_mul_of_nonneg_left n.2 (by decide)
 have l2 : 256 * (6 * LL * eS) ≤ SS := by rw [← Int.mul_assoc, ← Int.mul_assoc]; exact l
 rw [Int.mul_sub, Int.mul_add] at e
 rw [Int.mul_add, Int.mul_add] at f
 refine ⟨r.fin, ?_, ?_⟩
 ·rw [Int.add_mul]
  generalize 6 * LL * Float64.val (Float64.add h f1) = z at *
  generalize 6 * LL * Float64.val h = u at *
  generalize 6 * LL * SS = y at *
  generalize 6 * LL * eS = t at *
  generalize p * SS = x at *
  lia
 ·rw [Int.add_mul]
  generalize 6 * LL * Float64.val (Float64.add h f1) = z at *
  generalize 6 * LL * Float64.val h = u at *
  generalize 6 * LL * SS = y at *
  generalize 6 * LL * eS = t at *
  generalize p * SS = x at *
  lia
noncomputable def cH : UInt64 := Float64.add 4602678819172646912 (Float64.ofFrac (decide ((1 : Int) < 0) != decide ((1048576 : Int) < 0)) (1 : Int).natAbs (1048576 : Int).natAbs)
theorem Ih : cE cH = true := by decide +kernel
theorem Ig : Float64.val cH = ((Float64.V cH.toNat : Nat) : Int) := by decide +kernel
theorem Ij : 1048576 * Float64.val cH = 524289 * SS := by decide +kernel
noncomputable def t2 : Nat := 4602678819172646912 + 2 ^ 40
theorem Qo : 8192 * ((Float64.V t2 : Nat) : Int) = 4097 * SS := by decide +kernel
theorem tN {x y : Int} (h : 6 * LL * x ≤ 6 * LL * y) : x ≤ y := Int.le_of_mul_le_mul_left h (by decide)
theorem sc (a x : Int) : a * (6 * LL * x) = 6 * LL * (a * x) := Int.mul_left_comm ..
theorem A0 : 1000000 * SS ≤ LL * SS := Int.mul_le_mul_of_nonneg_right (by decide) (Int.le_of_lt j6)
theorem zo (x : Int) : 6 * LL * x = 6 * (LL * x) := Int.mul_assoc ..
theorem Po (a b : Int) (h : a * b = 4097 * SS) : a * (6 * LL * b) = 24582 * (LL * SS) := by rw [sc, h, ← sc, zo]; lia
theorem Pr : 1048576 * (6 * LL * Float64.val cH) = 3145734 * (LL * SS) := by rw [sc, Ij, ← sc, zo]; lia
theorem JV {z D A S H : Int} (s0 : 0 < S) (a0 : 1000000 * S ≤ A) (hi : 256 * z ≤ 256 * D + 3 * S) (d : D ≤ 3 * A) (e : 1048576 * H = 3145734 * A) : z ≤ H := by lia
theorem JU {z D A S H : Int} (s0 : 0 < S) (a0 : 1000000 * S ≤ A) (lo : 256 * D - 3 * S ≤ 256 * z) (d : A ≤ (D - 3 * A) * 729) (e : 8192 * H = 24582 * A) : H ≤ z := by lia
theorem JW {C : UInt64} {tc td : Nat} (hC : Float64.val C = (Float64.V tc : Nat)) (Pp : 1048576 * (6 * LL * Float64.val C) = 3145734 * (LL * SS)) (Pq : 8192 * (6 * LL * (Float64.V td : Nat)) = 24582 * (LL * SS)) (lt : Float64.val C < (Float64.V td : Nat)) {h k : UInt64} {p q : Int} (H : jw h p 1) (K : jw k q 2) (hv : Float64.val h ≤ Float64.val k) (d6 : q - p ≤ 6 * LL) (d3 : q - p ≤ 3 * LL ∨ LL ≤ (q - p - 3 * LL) * 729) :
  cE (Float64.sub k h) = true ∧ (Float64.val (Float64.sub k h) ≤ Float64.val C ↔ q - p ≤ 3 * LL) := by
 have s0 := j6
 have a0 := A0
 have e : 6 * LL * (Float64.val k - Float64.val h) = 6 * LL * Float64.val k - 6 * LL * Float64.val h := Int.mul_sub ..
 have dS : (q - p) * SS = q * SS - p * SS := Int.sub_mul ..
 have lo : 256 * ((q - p) * SS) - 3 * SS ≤ 256 * (6 * LL * (Float64.val k - Float64.val h)) := by
  have a := H.hi
  have b := K.lo
  rw [e, dS]; lia
 have hi : 256 * (6 * LL * (Float64.val k - Float64.val h)) ≤ 256 * ((q - p) * SS) + 3 * SS := by
  have a := H.lo
  have b := K.hi
  rw [e, dS]; lia
 have up : ∀ n : Int, q - p ≤ n * LL → (q - p) * SS ≤ n * (LL * SS) := fun n h => by
  have r := Int.mul_le_mul_of_nonneg_right h (Int.le_of_lt s0)
  rw [Int.mul_assoc] at r
  exact r
 have h4 : Float64.val k - Float64.val h ≤ 4 * SS := tN (by
  have r := up 6 d6
  rw [zo (4 * SS), Int.mul_left_comm LL]
  generalize 6 * LL * (Float64.val k - Float64.val h) = z at *
  generalize (q - p) * SS = D at *
  generalize LL * SS = A at *
  lia)
 have r := Qf K.fin H.fin hv h4
 refine ⟨r.fin, ?_⟩
 rcases d3 with d | d
 ·refine ⟨fun ξ => d, fun ξ => ?_⟩
  have w := r.le tc
  rw [← hC] at w
  exact w (tN (JV s0 a0 hi (up 3 d) Pp))
 ·have n : ¬ q - p ≤ 3 * LL := by have := fu; lia
  refine ⟨fun g => absurd g (Int.not_le.mpr (Int.lt_of_lt_of_le lt (r.ge td (tN (JU s0 a0 lo ?_ Pq))))), fun g => absurd g n⟩
  have x := Int.mul_le_mul_of_nonneg_right d (Int.le_of_lt s0)
  rw [Int.mul_assoc, Int.mul_comm 729, ← Int.mul_assoc, Int.sub_mul, Int.mul_assoc 3] at x
  exact x
theorem Ii : Float64.val cH < ((Float64.V t2 : Nat) : Int) := by decide +kernel
theorem Ct {h k : UInt64} {p q : Int} (H : jw h p 1) (K : jw k q 2) (hv : Float64.val h ≤ Float64.val k) (d6 : q - p ≤ 6 * LL) (d3 : q - p ≤ 3 * LL ∨ LL ≤ (q - p - 3 * LL) * 729) :
  cE (Float64.sub k h) = true ∧ (Float64.val (Float64.sub k h) ≤ Float64.val cH ↔ q - p ≤ 3 * LL) := JW Ig Pr (Po _ _ Qo) Ii H K hv d6 d3
end Ev
end
section
namespace Ev
open PySem
noncomputable def stp (c : aD) : Int × Int := (c.r - c.b, c.g - c.b)
inductive dB where
 | a | b | c
noncomputable def dB.n : dB → Int := @fun aa => match aa with
 | .a => 0
 | .b => 1
 | .c => 2
noncomputable def dB.v (k : dB) (u W : Int) : Int × Int := match k with
 | .a => (W, u)
 | .b => (W - u, W)
 | .c => (-u, W - u)
structure dm (k : dB) (u W t : Int) : Prop where
 w0 : 0 < W
 u0 : 0 ≤ u
 uW : u ≤ W
 kb : k = .b → 0 < u
 kc : k = .c → 0 < u ∧ u < W
 t : t * W = u * LL
theorem dm.t0 {k : dB} {u W t : Int} (h : dm k u W t) : 0 ≤ t := Int.nonneg_of_mul_nonneg_left (by rw [h.t]; exact Int.mul_nonneg h.u0 (Int.le_of_lt fu)) h.w0
theorem dm.tp {k : dB} {u W t : Int} (h : dm k u W t) (q : 0 < u) : 0 < t := Int.pos_of_mul_pos_left (by rw [h.t]; exact Int.mul_pos q fu) h.w0
theorem dm.tL {k : dB} {u W t : Int} (h : dm k u W t) : t ≤ LL := Int.le_of_mul_le_mul_right (by rw [h.t, Int.mul_comm LL]; exact Int.mul_le_mul_of_nonneg_right h.uW (Int.le_of_lt fu)) h.w0
theorem dm.tl {k : dB} {u W t : Int} (h : dm k u W t) (q : u < W) : t < LL := Int.lt_of_mul_lt_mul_right (by rw [h.t, Int.mul_comm LL]; exact Int.mul_lt_mul_of_pos_right q fu) (Int.le_of_lt h.w0)
section
variable {k l : dB} {u W t v V s : Int}
theorem Pn (h : dm k u W t) (g : dm l v V s) : (t < s ↔ 0 < W * v - u * V) ∧ (t = s ↔ W * v - u * V = 0) := by
 have e : (W * v - u * V) * LL = (s - t) * (W * V) := by
  rw [Int.sub_mul, Int.sub_mul, Int.mul_assoc W v, ← g.t, Int.mul_left_comm W s V, Int.mul_right_comm u V, ← h.t, Int.mul_assoc t W V]
 have wv := Int.mul_pos h.w0 g.w0
 generalize W * v - u * V = x at *
 generalize W * V = y at *
 have a : 0 < x ↔ 0 < s - t := ⟨fun q => Int.pos_of_mul_pos_left (e ▸ Int.mul_pos q fu) wv, fun q => Int.pos_of_mul_pos_left (e ▸ Int.mul_pos q wv) fu⟩
 have b : x = 0 ↔ s - t = 0 := ⟨fun q => (Int.mul_eq_zero.mp (show (s - t) * y = 0 by rw [← e, q, Int.zero_mul])).elim id fun q => absurd q (Int.ne_of_gt wv), fun q => (Int.mul_eq_zero.mp (show x * LL = 0 by rw [e, q, Int.zero_mul])).elim id fun q => absurd q (by decide)⟩
 exact ⟨⟨fun q => a.mpr (Int.sub_pos_of_lt q), fun q => Int.lt_of_sub_pos (a.mp q)⟩, ⟨fun q => b.mpr (by rw [q, Int.sub_self]), fun q => (Int.sub_eq_zero.mp (b.mp q)).symm⟩⟩
theorem IV (k : dB) : aK (k.v u W) (k.v v V) = W * v - u * V := by
 cases k with
 | a => rfl
 | b => show (W - u) * V - W * (V - v) = _; rw [Int.sub_mul, Int.mul_sub]; lia
 | c => show -u * (V - v) - (W - u) * -v = _; rw [Int.mul_sub, Int.sub_mul, Int.mul_neg, Int.mul_neg, Int.neg_mul, Int.neg_mul]; lia
theorem I2 (h : dm k u W t) (g : dm k v V s) : 0 < dot (k.v u W) (k.v v V) := by
 have wv := Int.mul_pos h.w0 g.w0
 have d := Int.mul_nonneg (Int.sub_nonneg_of_le h.uW) (Int.sub_nonneg_of_le g.uW)
 cases k with
 | a => exact Int.add_pos_of_pos_of_nonneg wv (Int.mul_nonneg h.u0 g.u0)
 | b => exact Int.add_pos_of_nonneg_of_pos d wv
 | c =>
  show 0 < -u * -v + (W - u) * (V - v)
  rw [Int.neg_mul_neg]
  exact Int.add_pos_of_pos_of_nonneg (Int.mul_pos (h.kc rfl).1 (g.kc rfl).1) d
theorem Be (h : dm .a u W t) (g : dm .b v V s) : 0 < aK (dB.v .a u W) (dB.v .b v V) := by
 show 0 < W * V - u * (V - v)
 have e : W * V - u * (V - v) = (W - u) * V + u * v := by rw [Int.mul_sub, Int.sub_mul]; lia
 rw [e]
 by_cases q : u < W
 ·exact Int.add_pos_of_pos_of_nonneg (Int.mul_pos (Int.sub_pos_of_lt q) g.w0) (Int.mul_nonneg h.u0 g.u0)
 ·have q := Int.le_antisymm h.uW (Int.not_lt.mp q)
  exact Int.add_pos_of_nonneg_of_pos (Int.mul_nonneg (Int.sub_nonneg_of_le h.uW) (Int.le_of_lt g.w0)) (Int.mul_pos (q ▸ h.w0) (g.kb rfl))
theorem Bf (h : dm .a u W t) (g : dm .c v V s) : 0 < aK (dB.v .a u W) (dB.v .c v V) := by
 show 0 < W * (V - v) - u * -v
 rw [Int.mul_neg, Int.sub_neg]
 exact Int.add_pos_of_pos_of_nonneg (Int.mul_pos h.w0 (Int.sub_pos_of_lt (g.kc rfl).2)) (Int.mul_nonneg h.u0 g.u0)
theorem Bg (h : dm .b u W t) (g : dm .c v V s) : 0 < aK (dB.v .b u W) (dB.v .c v V) := by
 show 0 < (W - u) * (V - v) - W * -v
 rw [Int.mul_neg, Int.sub_neg]
 exact Int.add_pos_of_nonneg_of_pos (Int.mul_nonneg (Int.sub_nonneg_of_le h.uW) (Int.sub_nonneg_of_le g.uW)) (Int.mul_pos h.w0 (g.kc rfl).1)
theorem rZ (x y : Int × Int) : aK y x = -aK x y := by
 show y.1 * x.2 - y.2 * x.1 = -(x.1 * y.2 - x.2 * y.1)
 rw [Int.mul_comm y.1, Int.mul_comm y.2]; lia
structure Turn (p q x d : Int) : Prop where
 lt : p < q ↔ 0 < x
 eq : p = q ↔ x = 0
 dot : x = 0 → 0 < d
theorem zU {p q x d : Int} (h : p < q) (hx : 0 < x) : Turn p q x d := ⟨⟨fun ξ => hx, fun ξ => h⟩, ⟨fun e => absurd e (Int.ne_of_lt h), fun e => absurd e (Int.ne_of_gt hx)⟩, fun e => absurd e (Int.ne_of_gt hx)⟩
theorem zT {p q x d : Int} (h : q < p) (hx : x < 0) : Turn p q x d := ⟨⟨fun e => absurd e (Int.lt_asymm h), fun e => absurd e (Int.lt_asymm hx)⟩, ⟨fun e => absurd e (Int.ne_of_gt h), fun e => absurd e (Int.ne_of_lt hx)⟩, fun e => absurd e (Int.ne_of_lt hx)⟩
theorem QG (h : dm k u W t) (g : dm l v V s) : Turn (k.n * LL + t) (l.n * LL + s) (aK (k.v u W) (l.v v V)) (dot (k.v u W) (l.v v V)) := by
 have same : ∀ {k : dB}, dm k u W t → dm k v V s → Turn (k.n * LL + t) (k.n * LL + s) (aK (k.v u W) (k.v v V)) (dot (k.v u W) (k.v v V)) := fun {k} h g => by
  have e := Pn h g
  rw [IV]
  exact ⟨(Int.add_lt_add_iff_left _).trans e.1, ⟨fun q => e.2.mp (Int.add_left_cancel q), fun q => congrArg _ (e.2.mpr q)⟩, fun ξ => I2 h g⟩
 have neg : ∀ {x y : Int × Int}, 0 < aK x y → aK y x < 0 := fun {x y} q => by rw [rZ x y]; exact Int.neg_neg_of_pos q
 have a := h.tL
 have b := g.tL
 have a0 := h.t0
 have b0 := g.t0
 cases k <;> cases l
 ·exact same h g
 ·exact zU (by have := g.tp (g.kb rfl); show 0 * LL + t < 1 * LL + s; lia) (Be h g)
 ·exact zU (by have := g.tp (g.kc rfl).1; show 0 * LL + t < 2 * LL + s; lia) (Bf h g)
 ·exact zT (by have := h.tp (h.kb rfl); show 0 * LL + s < 1 * LL + t; lia) (neg (Be g h))
 ·exact same h g
 ·exact zU (by have := g.tp (g.kc rfl).1; show 1 * LL + t < 2 * LL + s; lia) (Bg h g)
 ·exact zT (by have := h.tp (h.kc rfl).1; show 0 * LL + s < 2 * LL + t; lia) (neg (Bf g h))
 ·exact zT (by have := h.tp (h.kc rfl).1; show 1 * LL + s < 2 * LL + t; lia) (neg (Bg g h))
 ·exact same h g
end
end Ev
end
section
namespace Ev
open PySem
noncomputable def eE (σ : Bool) (s : Int × Int) : Int × Int := if σ then s else (-s.1, -s.2)
noncomputable def ng (p q : Int) : Prop := (p < q ∧ q < p + 3 * LL) ∨ q + 3 * LL < p
noncomputable def rE (p q : Int) : Prop := q = p + 3 * LL ∨ p = q + 3 * LL
structure Dir (s : Int × Int) (p : Int) : Prop where
 ex : ∃ k u W t σ, dm k u W t ∧ s = eE σ (k.v u W) ∧ p = (if σ then 0 else 3 * LL) + (k.n * LL + t)
theorem half_lt {k : dB} {u W t : Int} (h : dm k u W t) : 0 ≤ k.n * LL + t ∧ k.n * LL + t < 3 * LL := by
 have a := h.tL
 have b := h.t0
 have c := fu
 cases k with
 | a => show 0 ≤ 0 * LL + t ∧ 0 * LL + t < 3 * LL; generalize LL = L at *; lia
 | b => show 0 ≤ 1 * LL + t ∧ 1 * LL + t < 3 * LL; generalize LL = L at *; lia
 | c => have d := h.tl (h.kc rfl).2; show 0 ≤ 2 * LL + t ∧ 2 * LL + t < 3 * LL; clear a; generalize LL = L at *; lia
theorem Bh (σ : Bool) (x y : Int × Int) : (aK (eE σ x) (eE σ y) = aK x y ∧ dot (eE σ x) (eE σ y) = dot x y) ∧ aK (eE σ x) (eE (!σ) y) = -aK x y ∧ dot (eE σ x) (eE (!σ) y) = -dot x y := by
 have a : ∀ p q r s : Int, -p * q - -r * s = -(p * q - r * s) ∧ -p * q + -r * s = -(p * q + r * s) := fun p q r s => by rw [Int.neg_mul, Int.neg_mul]; generalize p * q = u; generalize r * s = v; lia
 have b : ∀ p q r s : Int, p * -q - r * -s = -(p * q - r * s) ∧ p * -q + r * -s = -(p * q + r * s) := fun p q r s => by rw [Int.mul_neg, Int.mul_neg]; generalize p * q = u; generalize r * s = v; lia
 cases σ
 ·refine ⟨⟨?_, ?_⟩, (a ..).1, (a ..).2⟩
  ·show -x.1 * -y.2 - -x.2 * -y.1 = aK x y; rw [Int.neg_mul_neg, Int.neg_mul_neg]; rfl
  ·show -x.1 * -y.1 + -x.2 * -y.2 = dot x y; rw [Int.neg_mul_neg, Int.neg_mul_neg]; rfl
 ·exact ⟨⟨rfl, rfl⟩, (b ..).1, (b ..).2⟩
theorem Turn.gt {p q x d : Int} (T : Turn p q x d) : q < p ↔ 0 < -x :=
 ⟨fun h => (Int.lt_trichotomy x 0).elim Int.neg_pos_of_neg fun r => r.elim (fun r => absurd (T.eq.mpr r) (Int.ne_of_gt h)) fun r => absurd (T.lt.mpr r) (Int.lt_asymm h),
  fun h => (Int.lt_trichotomy p q).elim (fun r => absurd (T.lt.mp r) (Int.lt_asymm (Int.neg_of_neg_pos h))) fun r => r.elim (fun r => absurd (T.eq.mp r) (Int.ne_of_lt (Int.neg_of_neg_pos h))) id⟩
section
variable {i j H : Int} (i0 : 0 ≤ i ∧ i < H) (j0 : 0 ≤ j ∧ j < H)
theorem Cs (o : Int) (i0 : 0 ≤ i ∧ i < H) (j0 : 0 ≤ j ∧ j < H) : i < j ↔ (o + i < o + j ∧ o + j < o + i + H) ∨ o + j + H < o + i := by lia
theorem E6 (o : Int) (i0 : 0 ≤ i ∧ i < H) (j0 : 0 ≤ j ∧ j < H) : ¬ (o + j = o + i + H ∨ o + i = o + j + H) := by lia
theorem JS (i0 : 0 ≤ i ∧ i < H) (j0 : 0 ≤ j ∧ j < H) : j < i ↔ (0 + i < H + j ∧ H + j < 0 + i + H) ∨ H + j + H < 0 + i := by lia
theorem JR (i0 : 0 ≤ i ∧ i < H) (j0 : 0 ≤ j ∧ j < H) : j < i ↔ (H + i < 0 + j ∧ 0 + j < H + i + H) ∨ 0 + j + H < H + i := by lia
theorem Oj (i0 : 0 ≤ i ∧ i < H) (j0 : 0 ≤ j ∧ j < H) : i = j ↔ (H + j = 0 + i + H ∨ 0 + i = H + j + H) := by lia
theorem Oh (i0 : 0 ≤ i ∧ i < H) (j0 : 0 ≤ j ∧ j < H) : i = j ↔ (0 + j = H + i + H ∨ H + i = 0 + j + H) := by lia
end
theorem E5 {s t : Int × Int} : gA s t = true ↔ aK s t = 0 ∧ dot s t ≤ 0 := by
 unfold gA
 rw [Bool.and_eq_true, beq_iff_eq, decide_eq_true_iff]
theorem ki {s s' : Int × Int} {p p' : Int} (h : Dir s p) (g : Dir s' p') : (0 < aK s s' ↔ ng p p') ∧ (gA s s' = true ↔ rE p p') := by
 obtain ⟨k, u, W, t, σ, a, rfl, rfl⟩ := h.ex
 obtain ⟨l, v, V, w, τ, b, rfl, rfl⟩ := g.ex
 have T := QG a b
 have x := half_lt a
 have y := half_lt b
 have same : ∀ σ, (0 < aK (eE σ (k.v u W)) (eE σ (l.v v V)) ↔ k.n * LL + t < l.n * LL + w) ∧ ¬ gA (eE σ (k.v u W)) (eE σ (l.v v V)) = true := fun σ => by
  have c := (Bh σ (k.v u W) (l.v v V)).1
  rw [E5, c.1, c.2]
  exact ⟨T.lt.symm, fun q => Int.not_le.mpr (T.dot q.1) q.2⟩
 have diff : ∀ σ, (0 < aK (eE σ (k.v u W)) (eE (!σ) (l.v v V)) ↔ l.n * LL + w < k.n * LL + t) ∧ (gA (eE σ (k.v u W)) (eE (!σ) (l.v v V)) = true ↔ k.n * LL + t = l.n * LL + w) := fun σ => by
  have c := (Bh σ (k.v u W) (l.v v V)).2
  rw [E5, c.1, c.2, Int.neg_eq_zero]
  exact ⟨T.gt.symm, fun q => T.eq.mpr q.1, fun q => ⟨T.eq.mp q, Int.neg_nonpos_of_nonneg (Int.le_of_lt (T.dot (T.eq.mp q)))⟩⟩
 cases σ <;> cases τ
 ·exact ⟨(same false).1.trans (Cs _ x y), fun q => absurd q (same false).2, fun q => absurd q (E6 _ x y)⟩
 ·exact ⟨(diff false).1.trans (JR x y), (diff false).2.trans (Oh x y)⟩
 ·exact ⟨(diff true).1.trans (JS x y), (diff true).2.trans (Oj x y)⟩
 ·exact ⟨(same true).1.trans (Cs _ x y), fun q => absurd q (same true).2, fun q => absurd q (E6 _ x y)⟩
theorem uH (M a b : Int) : (M - a) - (M - b) = b - a := by lia
theorem ue {a b a' b' : Int} (h1 : a = a') (h2 : b = b') : (a, b) = (a', b') := by rw [h1, h2]
theorem Qy {Q W : Int} (h0 : 0 < W) (q0 : 0 ≤ Q) (q3 : Q < 3 * W) : ∃ (k : dB) (u : Int), Q = k.n * W + u ∧ vec Q W = k.v u W ∧ ∀ t, t * W = u * LL → dm k u W t := by
 unfold vec
 by_cases h1 : Q ≤ W
 ·rw [if_pos h1]
  exact ⟨.a, Q, by show Q = 0 * W + Q; rw [Int.zero_mul, Int.zero_add], rfl, fun t e => ⟨h0, q0, h1, fun q => dB.noConfusion q, fun q => dB.noConfusion q, e⟩⟩
 ·rw [if_neg h1]
  have p1 := Int.sub_pos_of_lt (Int.not_le.mp h1)
  by_cases h2 : Q ≤ 2 * W
  ·rw [if_pos h2]
   exact ⟨.b, Q - W, by show Q = 1 * W + (Q - W); lia, ue (by lia) rfl, fun t e => ⟨h0, Int.le_of_lt p1, by lia, fun ξ => p1, fun q => dB.noConfusion q, e⟩⟩
  ·rw [if_neg h2]
   have p2 := Int.sub_pos_of_lt (Int.not_le.mp h2)
   exact ⟨.c, Q - 2 * W, by show Q = 2 * W + (Q - 2 * W); lia, ue (by lia) (by lia), fun t e => ⟨h0, Int.le_of_lt p2, by lia, fun q => dB.noConfusion q, fun ξ => ⟨p2, by lia⟩, e⟩⟩
theorem IZ {c : aD} (h : bq c) (h0 : c.wide > 0) : Dir (stp c) c.pos := by
 have s := uy h h0
 have lw := (jR h).lw
 have eP : c.P = c.place := if_pos h0
 have eW : c.W = c.wide := if_pos h0
 have st := s.step
 unfold stepOk at st
 have e1 : ((c.top - c.b) - (c.top - c.r), (c.top - c.b) - (c.top - c.g)) = stp c := ue (uH ..) (uH ..)
 have e2 : ((c.top - c.r) - (c.top - c.b), (c.top - c.g) - (c.top - c.b)) = eE false (stp c) := ue ((uH ..).trans (Int.neg_sub ..).symm) ((uH ..).trans (Int.neg_sub ..).symm)
 have p0 := s.p0
 have p6 := s.p6
 have q : c.pos = c.place * (LL / c.wide) := by unfold aD.pos; rw [eP, eW]
 rw [eW] at lw
 generalize LL / c.wide = K at *
 generalize c.place = P at *
 generalize c.wide = W at *
 have main : ∀ (Q : Int) (σ : Bool), 0 ≤ Q → Q < 3 * W → stp c = eE σ (vec Q W) → c.pos = (if σ then 0 else 3 * LL) + Q * K → Dir (stp c) c.pos := fun Q σ q0 q3 es ep => by
  have ht : ∀ u : Int, u * K * W = u * LL := fun u => by rw [Int.mul_assoc, lw]
  obtain ⟨k, u, hu, hv, hh⟩ := Qy h0 q0 q3
  exact ⟨k, u, W, u * K, σ, hh _ (ht u), by rw [es, hv], by rw [ep, hu, Int.add_mul, Int.mul_assoc k.n W, Int.mul_comm W, lw]⟩
 by_cases h3 : P < 3 * W
 ·rw [if_pos h3] at st
  exact main P true p0 h3 (e1.symm.trans (eq_of_beq st)) (by rw [q]; exact (Int.zero_add _).symm)
 ·rw [if_neg h3] at st
  refine main (P - 3 * W) false (Int.sub_nonneg_of_le (Int.not_lt.mp h3)) (by clear st e1 e2 q lw s p0 h3; lia) ?_ ?_
  ·have e := e2.symm.trans (eq_of_beq st)
   rw [← e]
   unfold eE
   show stp c = (- -(stp c).1, - -(stp c).2)
   rw [Int.neg_neg, Int.neg_neg]
  ·rw [q, Int.sub_mul, Int.mul_assoc 3, Int.mul_comm W, lw]
   show _ = 3 * LL + (_ - 3 * LL)
   rw [Int.add_comm, Int.sub_add_cancel]
end Ev
end
section
namespace Ev
open PySem
noncomputable def lD (a b c : Int × Int) : Prop := 0 < aK a b ∧ 0 < aK b c ∧ 0 < aK c a
theorem ED {a b : Int} (h1 : 0 < a) (h2 : 0 < b) : 0 < eO a b := (qt a b).2.2.elim (fun e => by rw [e]; exact h1) fun e => by rw [e]; exact h2
theorem EH {a b : Int} (h1 : a < 0) (h2 : b < 0) : ff a b < 0 := (qu a b).2.2.elim (fun e => by rw [e]; exact h1) fun e => by rw [e]; exact h2
theorem zN {a b c : Int × Int} (h : lD a b c) : gG a b c = true := by
 unfold gG
 rw [decide_eq_true (ED (ED h.1 h.2.1) h.2.2)]; rfl
theorem zF {a b : Int × Int} (h : 0 < aK a b) : aK b a < 0 := by rw [rZ a b]; exact Int.neg_neg_of_pos h
theorem zG {a b : Int × Int} (h : aK a b < 0) : 0 < aK b a := by rw [rZ a b]; exact Int.neg_pos_of_neg h
theorem zM {a b c : Int × Int} (h : lD a b c) : gG c b a = true := by
 unfold gG
 rw [decide_eq_true (EH (EH (zF h.2.1) (zF h.1)) (zF h.2.2)), Bool.or_true]
theorem IX {a b c : Int × Int} (h : gG a b c = true) : lD a b c ∨ lD c b a := by
 refine E9 h (fun q => .inl ?_) fun q => .inr ?_
 ·have q := of_decide_eq_true q
  have h1 := qt (aK a b) (aK b c)
  have h2 := qt (eO (aK a b) (aK b c)) (aK c a)
  have x := Int.lt_of_lt_of_le q h2.1
  exact ⟨Int.lt_of_lt_of_le x h1.1, Int.lt_of_lt_of_le x h1.2.1, Int.lt_of_lt_of_le q h2.2.1⟩
 ·have q := of_decide_eq_true q
  have h1 := qu (aK a b) (aK b c)
  have h2 := qu (ff (aK a b) (aK b c)) (aK c a)
  have x := Int.lt_of_le_of_lt h2.1 q
  exact ⟨zG (Int.lt_of_le_of_lt h1.2.1 x), zG (Int.lt_of_le_of_lt h1.1 x), zG (Int.lt_of_le_of_lt h2.2.1 q)⟩
theorem Oi {a b : Int × Int} (h : gA a b = true) : gA b a = true := by
 have q := aj h
 unfold gA
 rw [rZ a b, eq_of_beq q.1, show dot b a = dot a b by unfold dot; rw [Int.mul_comm b.1, Int.mul_comm b.2], q.2]; rfl
section
variable {S : List (Int × Int)}
theorem u7 {m : Nat} {p : Int → Bool} : (intsFrom 0 m).any p = true ↔ ∃ i : Nat, i < m ∧ p i = true := by
 rw [List.any_eq_true]
 constructor
 ·rintro ⟨i, hi, hp⟩
  have q := iy.mp hi
  obtain ⟨n, rfl⟩ := mJ q.1
  exact ⟨n, by lia, hp⟩
 ·rintro ⟨i, hi, hp⟩
  exact ⟨i, iy.mpr ⟨Int.natCast_nonneg i, by lia⟩, hp⟩
theorem Jr : gh S = true ↔ ∃ i : Nat, i < S.length ∧ ∃ j : Nat, j < i + 1 ∧ (gA (at2 S i) (at2 S j) = true ∨ ∃ k : Nat, k < j ∧ gG (at2 S i) (at2 S j) (at2 S k) = true) := by
 unfold gh jJ
 rw [u7]
 refine exists_congr fun i => and_congr_right fun ξ => ?_
 rw [u7, Int.toNat_natCast]
 refine exists_congr fun j => and_congr_right fun ξ => ?_
 rw [Bool.or_eq_true, u7, Int.toNat_natCast]
theorem kM {i : Nat} (h : i < S.length) : at2 S i ∈ S := List.mem_of_getElem? (o8 h)
theorem pg {a : Int × Int} (h : a ∈ S) : ∃ i : Nat, i < S.length ∧ at2 S i = a := by
 obtain ⟨i, hi⟩ := List.mem_iff_getElem?.mp h
 have hl := (List.getElem?_eq_some_iff.mp hi).1
 exact ⟨i, hl, Option.some.inj ((o8 hl).symm.trans hi)⟩
theorem IW (a : Int × Int) : aK a a = 0 := by unfold aK; rw [Int.mul_comm a.1]; exact Int.sub_self _
theorem BQ : gh S = true ↔ (∃ a ∈ S, ∃ b ∈ S, gA a b = true) ∨ ∃ a ∈ S, ∃ b ∈ S, ∃ c ∈ S, lD a b c := by
 rw [Jr]
 constructor
 ·rintro ⟨i, hi, j, hj, h | ⟨k, hk, h⟩⟩
  ·exact .inl ⟨_, kM hi, _, kM (Nat.lt_of_lt_of_le hj hi), h⟩
  ·have nT := Nat.lt_of_lt_of_le hj hi
   have gr := Nat.lt_trans hk nT
   rcases IX h with q | q
   ·exact .inr ⟨_, kM hi, _, kM nT, _, kM gr, q⟩
   ·exact .inr ⟨_, kM gr, _, kM nT, _, kM hi, q⟩
 ·rintro (⟨a, ha, b, hb, h⟩ | ⟨a, ha, b, hb, c, hc, h⟩)
  ·obtain ⟨i, hi, rfl⟩ := pg ha
   obtain ⟨j, hj, rfl⟩ := pg hb
   rcases Nat.le_total j i with q | q
   ·exact ⟨i, hi, j, Nat.lt_succ_of_le q, .inl h⟩
   ·exact ⟨j, hj, i, Nat.lt_succ_of_le q, .inl (Oi h)⟩
  ·obtain ⟨i, hi, rfl⟩ := pg ha
   obtain ⟨j, hj, rfl⟩ := pg hb
   obtain ⟨k, hk, rfl⟩ := pg hc
   have mk : ∀ {x y z : Nat}, x < S.length → y < x → z < y → gG (at2 S x) (at2 S y) (at2 S z) = true → ∃ i : Nat, i < S.length ∧ ∃ j : Nat, j < i + 1 ∧ (gA (at2 S i) (at2 S j) = true ∨ ∃ k : Nat, k < j ∧ gG (at2 S i) (at2 S j) (at2 S k) = true) := fun {x y z} h1 h2 h3 t => ⟨x, h1, y, Nat.lt_succ_of_lt h2, .inr ⟨z, h3, t⟩⟩
   have ne : ∀ {x y : Nat}, 0 < aK (at2 S x) (at2 S y) → x ≠ y := fun {x y} q e => by rw [e, IW] at q; exact Int.lt_irrefl 0 q
   have n1 := ne h.1
   have n2 := ne h.2.1
   have n3 := ne h.2.2
   have h2 : lD (at2 S j) (at2 S k) (at2 S i) := ⟨h.2.1, h.2.2, h.1⟩
   have h3 : lD (at2 S k) (at2 S i) (at2 S j) := ⟨h.2.2, h.1, h.2.1⟩
   rcases Nat.lt_or_gt_of_ne n1 with p | p <;> rcases Nat.lt_or_gt_of_ne n2 with q | q <;> rcases Nat.lt_or_gt_of_ne n3 with r | r
   ·exact absurd (Nat.lt_trans p (Nat.lt_trans q r)) (Nat.lt_irrefl _)
   ·exact mk hk q p (zM h)
   ·exact mk hj p r (zM h3)
   ·exact mk hj q r (zN h2)
   ·exact mk hi r q (zM h2)
   ·exact mk hk r p (zN h3)
   ·exact mk hi p q (zN h)
   ·exact absurd (Nat.lt_trans r (Nat.lt_trans q p)) (Nat.lt_irrefl _)
end
noncomputable def oZ (p : Int) : Int → List Int → Prop := @fun aa ak => match aa, ak with
 | x, [] => p + 6 * LL - x ≤ 3 * LL
 | x, y :: l => y - x ≤ 3 * LL ∧ oZ p y l
noncomputable def Up : Int → List Int → Prop := @fun aa ak => match aa, ak with
 | υ1, [] => True
 | x, y :: l => x ≤ y ∧ Up y l
noncomputable def uX (M : Int → Prop) : Prop := (∃ p q, M p ∧ M q ∧ rE p q) ∨ ∃ p q r, M p ∧ M q ∧ M r ∧ ng p q ∧ ng q r ∧ ng r p
theorem zW : ∀ {l : List Int} {x z : Int}, Up x l → z ∈ l → x ≤ z := @fun aa ak aS bQ m7 => match aa, ak, aS, bQ, m7 with
 | y :: l, x, z, h, hz => (List.mem_cons.mp hz).elim (fun e => e ▸ h.1) fun hz => Int.le_trans h.1 (zW h.2 hz)
theorem FU {M : Int → Prop} {p : Int} (hp : M p) : ∀ {l : List Int} {x : Int}, M x → (∀ y ∈ l, M y) → Up x l → p ≤ x → x < p + 3 * LL → oZ p x l → uX M := @fun aa => @(match aa with
 | [] => @fun x hx ξ ξ h1 h2 h => absurd (show p + 6 * LL - x ≤ 3 * LL from h) (by lia)
 | y :: l => @fun x hx hl hu h1 h2 h => by
  have hy := hl y List.mem_cons_self
  have mh := hu.1
  have hg := h.1
  by_cases a : y < p + 3 * LL
  ·exact FU hp hy (fun z hz => hl z (List.mem_cons_of_mem _ hz)) hu.2 (Int.le_trans h1 mh) a h.2
  ·by_cases b : y = p + 3 * LL
   ·exact .inl ⟨p, y, hp, hy, .inl b⟩
   ·by_cases c : y = x + 3 * LL
    ·exact .inl ⟨x, y, hx, hy, .inl c⟩
    ·exact .inr ⟨p, x, y, hp, hx, hy, .inl ⟨by lia, h2⟩, .inl ⟨by lia, by lia⟩, .inr (by lia)⟩)
structure Hz (a b x : Int) : Prop where
 ex : ∃ x', (x' = x ∨ x' = x - 6 * LL) ∧ a ≤ x' ∧ x' ≤ b
theorem FW {M : Int → Prop} {p : Int} (h0 : ∀ z, M z → 0 ≤ z ∧ z < 6 * LL ∧ p ≤ z) : ∀ {l : List Int} {x : Int}, M x → (∀ y ∈ l, M y) → (∀ z, M z → z ≤ x ∨ z ∈ l) → Up x l → ¬ oZ p x l → ∃ a b, b - a < 3 * LL ∧ ∀ z, M z → Hz a b z := @fun aa => @(match aa with
 | [] => @fun x hx ξ hm ξ h => by
  have h := Int.not_le.mp (show ¬ p + 6 * LL - x ≤ 3 * LL from h)
  exact ⟨p, x, by lia, fun z hz => ⟨z, .inl rfl, (h0 z hz).2.2, (hm z hz).elim id fun q => (List.not_mem_nil q).elim⟩⟩
 | y :: l => @fun x hx hl hm hu h => by
  have hy := hl y List.mem_cons_self
  by_cases g : y - x ≤ 3 * LL
  ·exact FW h0 hy (fun z hz => hl z (List.mem_cons_of_mem _ hz)) (fun z hz => (hm z hz).elim (fun q => .inl (Int.le_trans q hu.1)) fun q => (List.mem_cons.mp q).elim (fun e => .inl (Int.le_of_eq e)) .inr) hu.2 fun r => h ⟨g, r⟩
  ·have x0 := h0 x hx
   have y0 := h0 y hy
   refine ⟨y - 6 * LL, x, by lia, fun z hz => ?_⟩
   have z0 := h0 z hz
   rcases hm z hz with q | q
   ·exact ⟨z, .inl rfl, by lia, q⟩
   ·have r : y ≤ z := (List.mem_cons.mp q).elim (fun e => Int.le_of_eq e.symm) fun q => zW hu.2 q
    exact ⟨z - 6 * LL, .inr rfl, by lia, by lia⟩)
theorem wq {p q p' q' a b : Int} (w : b - a < 3 * LL) (p0 : 0 ≤ p ∧ p < 6 * LL) (q0 : 0 ≤ q ∧ q < 6 * LL) (hp : p' = p ∨ p' = p - 6 * LL) (hq : q' = q ∨ q' = q - 6 * LL) (p1 : a ≤ p') (p2 : p' ≤ b) (q1 : a ≤ q') (q2 : q' ≤ b) (h : ng p q) : p' < q' := by
 unfold ng at h
 unfold LL at *
 lia
theorem Ol {p q p' q' a b : Int} (w : b - a < 3 * LL) (hp : p' = p ∨ p' = p - 6 * LL) (hq : q' = q ∨ q' = q - 6 * LL) (p1 : a ≤ p') (p2 : p' ≤ b) (q1 : a ≤ q') (q2 : q' ≤ b) (h : rE p q) : False := by
 unfold rE at h
 unfold LL at *
 lia
theorem O8 {p : Int} {l : List Int} (hu : Up p l) (h0 : ∀ z ∈ p :: l, 0 ≤ z ∧ z < 6 * LL) : oZ p p l ↔ uX (· ∈ p :: l) := by
 have hp : p ∈ p :: l := List.mem_cons_self
 have hl : ∀ y ∈ l, y ∈ p :: l := fun y hy => List.mem_cons_of_mem _ hy
 refine ⟨fun h => FU hp hp hl hu (Int.le_refl p) (by have := fu; lia) h, fun h => Classical.byContradiction fun n => ?_⟩
 obtain ⟨a, b, w, qT⟩ := FW (M := (· ∈ p :: l)) (p := p) (fun z hz => ⟨(h0 z hz).1, (h0 z hz).2, (List.mem_cons.mp hz).elim (fun e => Int.le_of_eq e.symm) fun q => zW hu q⟩) hp hl (fun z hz => (List.mem_cons.mp hz).elim (fun e => .inl (Int.le_of_eq e)) .inr) hu n
 rcases h with ⟨x, y, hx, hy, o⟩ | ⟨x, y, z, hx, hy, hz, f1, f2, f3⟩
 ·obtain ⟨x', x1, x2, x3⟩ := (qT x hx).ex
  obtain ⟨y', y1, y2, y3⟩ := (qT y hy).ex
  exact Ol w x1 y1 x2 x3 y2 y3 o
 ·obtain ⟨x', x1, x2, x3⟩ := (qT x hx).ex
  obtain ⟨y', y1, y2, y3⟩ := (qT y hy).ex
  obtain ⟨z', z1, z2, z3⟩ := (qT z hz).ex
  have a1 := wq w (h0 x hx) (h0 y hy) x1 y1 x2 x3 y2 y3 f1
  have a2 := wq w (h0 y hy) (h0 z hz) y1 z1 y2 y3 z2 z3 f2
  have a3 := wq w (h0 z hz) (h0 x hx) z1 x1 z2 z3 x2 x3 f3
  exact Int.lt_irrefl _ (Int.lt_trans a1 (Int.lt_trans a2 a3))
end Ev
end
section
namespace Ev
open PySem
noncomputable def lT (e : UInt64) : UInt64 → List UInt64 → List (UInt64 × UInt64) := @fun aa ak => match aa, ak with
 | x, [] => [(x, e)]
 | x, y :: l => (x, y) :: lT e y l
noncomputable def iL (p : UInt64 × UInt64) : UInt64 := Float64.sub p.2 p.1
noncomputable def nP : List UInt64 → List (UInt64 × UInt64) := @fun aa => match aa with
 | [] => []
 | x :: l => lT (Float64.add x f1) x l
theorem QN {c d : aD} (hc : bq c) (hd : bq d) (h : c.pos ≤ d.pos) : Float64.val c.bC ≤ Float64.val d.bC := by
 by_cases e : c.pos = d.pos
 ·rw [yS hc hd e]; exact Int.le_refl _
 ·exact Int.le_of_lt (oQ (dX hc) (dX hd) (Int.lt_iff_le_and_ne.mpr ⟨h, e⟩))
theorem jw.wide {h : UInt64} {p : Int} (H : jw h p 1) : jw h p 2 := by
 have s := j6
 have a := H.lo
 have b := H.hi
 rw [Int.one_mul] at a b
 refine ⟨H.fin, ?_, ?_⟩ <;> rw [Int.two_mul] <;> generalize SS = S at * <;> lia
theorem GK {c d : aD} (hc : bq c) (hd : bq d) (t : Int) : d.pos - c.pos + t * LL ≤ 0 ∨ LL ≤ (d.pos - c.pos + t * LL) * 729 := by
 by_cases h : 0 < d.pos - c.pos + t * LL
 ·exact .inr (Fg hc hd h)
 ·exact .inl (Int.not_lt.mp h)
theorem kR {c : aD} (h : bq c) : 0 ≤ c.pos ∧ c.pos < 6 * LL := by
 have w := qD h
 have q := yR h
 constructor
 ·exact Int.nonneg_of_mul_nonneg_left (by rw [q]; exact Int.mul_nonneg w.p0 (Int.le_of_lt fu)) w.w0
 ·refine Int.lt_of_mul_lt_mul_right ?_ (Int.le_of_lt w.w0)
  rw [q, Int.mul_right_comm]
  exact Int.mul_lt_mul_of_pos_right w.p6 fu
theorem Q3 : j5 0 0 := EN (by decide +kernel)
theorem G5 : Float64.val 0 = 0 := by decide +kernel
theorem Lw : tw 0 = 0 := by decide +kernel
theorem C7 {c : aD} (h : bq c) : 0 ≤ Float64.val c.bC := by
 by_cases e : c.pos = 0
 ·rw [show c.bC = 0 from (jR h).can.trans ((congrArg tw e).trans Lw), G5]; exact Int.le_refl 0
 ·have q := oQ Q3 (dX h) (Int.lt_iff_le_and_ne.mpr ⟨(kR h).1, Ne.symm e⟩)
  rw [G5] at q
  exact Int.le_of_lt q
theorem one_up {c d : aD} (hc : bq c) (hd : bq d) : Float64.val d.bC ≤ Float64.val (Float64.add c.bC f1) := by
 have n := EO (dX hc) (C7 hc) (kR hc).2
 have a := n.lo
 have b := (dX hd).hi
 have e := yh (kR hd).2
 have f := Int.mul_nonneg (kR hc).1 (Int.le_of_lt j6)
 have s := j6
 rw [Int.add_mul, Int.two_mul] at a
 refine tN ?_
 generalize 6 * LL * Float64.val d.bC = u at *
 generalize 6 * LL * Float64.val (Float64.add c.bC f1) = v at *
 generalize c.pos * SS = x at *
 generalize d.pos * SS = y at *
 generalize 6 * LL * SS = z at *
 generalize SS = S at *
 lia
theorem Cu {c : aD} (hc : bq c) : ∀ {l : List aD} {x : aD}, bq x → (∀ y ∈ l, bq y) → Up x.pos (l.map aD.pos) → c.pos ≤ x.pos → (∀ g ∈ lT (Float64.add c.bC f1) x.bC (l.map aD.bC), cE (iL g) = true) ∧ ((∀ g ∈ lT (Float64.add c.bC f1) x.bC (l.map aD.bC), Float64.val (iL g) ≤ Float64.val cH) ↔ oZ c.pos x.pos (l.map aD.pos)) := @fun aa => @(match aa with
 | [] => @fun x hx ξ ξ h => by
  have t := GK hx hc 3
  have g := Ct (dX hx).t (EO (dX hc) (C7 hc) (kR hc).2) (one_up hc hx) (by have := h; lia) (by rcases t with t | t; exact .inl (by lia); exact .inr (by rw [show c.pos + 6 * LL - x.pos - 3 * LL = c.pos - x.pos + 3 * LL by lia]; exact t))
  exact ⟨fun q hq => by rw [List.mem_singleton.mp hq]; exact g.1, ⟨fun q => g.2.mp (q _ (List.mem_singleton.mpr rfl)), fun q r hr => by rw [List.mem_singleton.mp hr]; exact g.2.mpr q⟩⟩
 | y :: l => @fun x hx hl hu h => by
  have hy := hl y List.mem_cons_self
  have mh : x.pos ≤ y.pos := hu.1
  have t := GK hx hy (-3)
  have rx := kR hx
  have ry := kR hy
  have g := Ct (dX hx).t (dX hy).t.wide (QN hx hy mh) (by lia) (by rcases t with t | t; exact .inl (by lia); exact .inr (by rw [show y.pos - x.pos - 3 * LL = y.pos - x.pos + -3 * LL by lia]; exact t))
  have ih := Cu hc hy (fun z hz => hl z (List.mem_cons_of_mem _ hz)) hu.2 (Int.le_trans h mh)
  exact ⟨fun q hq => (List.mem_cons.mp hq).elim (fun e => by rw [e]; exact g.1) (ih.1 q), ⟨fun q => ⟨g.2.mp (q _ List.mem_cons_self), ih.2.mp fun r hr => q r (List.mem_cons_of_mem _ hr)⟩, fun q r hr => (List.mem_cons.mp hr).elim (fun e => by rw [e]; exact g.2.mpr q.1) (ih.2.mpr q.2 r)⟩⟩)
theorem Jy {x y : UInt64} (hx : cE x = true) (hy : cE y = true) : ik x y = decide (Float64.val y < Float64.val x) := by
 unfold ik
 rw [rV hx hy]
 rcases Int.lt_trichotomy (Float64.val x) (Float64.val y) with h | h | h
 ·rw [Int.compare_eq_lt.mpr h, decide_eq_false (Int.not_lt.mpr (Int.le_of_lt h))]; rfl
 ·rw [Int.compare_eq_eq.mpr h, decide_eq_false (Int.not_lt.mpr (Int.le_of_eq h))]; rfl
 ·rw [Int.compare_eq_gt.mpr h, decide_eq_true h]; rfl
theorem yH {C : Int} : ∀ {gs : List UInt64} {b : UInt64}, cE b = true → (∀ g ∈ gs, cE g = true) → ∃ g, cL (cQ .Gt) (.flt b) (gs.map .flt) = some (.flt g) ∧ cE g = true ∧ (Float64.val g ≤ C ↔ Float64.val b ≤ C ∧ ∀ x ∈ gs, Float64.val x ≤ C) := @fun aa => @(match aa with
 | [] => @fun b hb ξ => ⟨b, rfl, hb, fun h => ⟨h, fun x hx => (List.not_mem_nil hx).elim⟩, fun h => h.1⟩
 | x :: gs => @fun b hb hg => by
  have hx := hg x List.mem_cons_self
  have e : cL (cQ .Gt) (.flt b) ((x :: gs).map .flt) = cL (cQ .Gt) (.flt (sel (ik x b) x b)) (gs.map .flt) := qA (t := ik x b) rfl
  rw [Jy hx hb] at e
  by_cases q : Float64.val b < Float64.val x
  ·rw [decide_eq_true q] at e
   obtain ⟨g, e1, e2, e3⟩ := yH (C := C) (gs := gs) hx fun y hy => hg y (List.mem_cons_of_mem _ hy)
   exact ⟨g, e.trans e1, e2, fun h => let r := e3.mp h; ⟨Int.le_trans (Int.le_of_lt q) r.1, fun y hy => (List.mem_cons.mp hy).elim (fun a => a ▸ r.1) (r.2 y)⟩, fun h => e3.mpr ⟨h.2 x List.mem_cons_self, fun y hy => h.2 y (List.mem_cons_of_mem _ hy)⟩⟩
  ·rw [decide_eq_false q] at e
   obtain ⟨g, e1, e2, e3⟩ := yH (C := C) (gs := gs) hb fun y hy => hg y (List.mem_cons_of_mem _ hy)
   exact ⟨g, e.trans e1, e2, fun h => let r := e3.mp h; ⟨r.1, fun y hy => (List.mem_cons.mp hy).elim (fun a => a ▸ Int.le_trans (Int.not_lt.mp q) r.1) (r.2 y)⟩, fun h => e3.mpr ⟨h.1, fun y hy => h.2 y (List.mem_cons_of_mem _ hy)⟩⟩)
theorem M2 {x y : UInt64} (hx : cE x = true) (hy : cE y = true) : b8 .LtE (.flt x) (.flt y) = some (decide (Float64.val x ≤ Float64.val y)) := by
 show some (Float64.cmp x y == some Ordering.lt || Float64.cmp x y == some Ordering.eq) = _
 rw [rV hx hy]
 refine congrArg some ?_
 rcases Int.lt_trichotomy (Float64.val x) (Float64.val y) with h | h | h
 ·rw [Int.compare_eq_lt.mpr h, decide_eq_true (Int.le_of_lt h)]; rfl
 ·rw [Int.compare_eq_eq.mpr h, decide_eq_true (Int.le_of_eq h)]; rfl
 ·rw [Int.compare_eq_gt.mpr h, decide_eq_false (Int.not_le.mpr h)]; rfl
end Ev
end
section
namespace Ev
open PySem
noncomputable abbrev kv (T : List Nat) (ts c : Nat) (x3 : Option D) : af := [some (.str T), some (.int ts), some (.int c), x3]
noncomputable def ID : List S := [.ite (.cmp .Eq (.var 3) (.lit (.str [9]))) [.asg [(.var 2)] (.bin .Add (.bin .Mult (.bin .FloorDiv (.var 2) (.var 1)) (.var 1)) (.var 1))] [.asg [(.var 2)] (.bin .Add (.var 2) (.lit (.int 1)))]]
noncomputable def nF (Δ : Dl) : D → af → ae → Option (aI × af × ae) := fun d vars σ => (cz (.var 3) d vars).bind fun vars => aJ Δ 197 ID vars σ
theorem IE {Δ : Dl} {T : List Nat} {ts c : Nat} {x3 : Option D} : nF Δ (.str [32]) (kv T ts c x3) [] = some (.next, kv T ts (c + 1) (some (.str [32])), []) := rfl
theorem IF {Δ : Dl} {T : List Nat} {ts c : Nat} {x3 : Option D} (h1 : 1 ≤ ts) (h2 : ts ≤ 10000) : nF Δ (.str [9]) (kv T ts c x3) [] = some (.next, kv T ts (c / ts * ts + ts) (some (.str [9])), []) := by
 have hs : small (ts : Int) = true := gW (Nat.le_trans h2 (by decide))
 refine cV (n := 195) (gO (c := .cmp .Eq (.var 3) (.lit (.str [9]))) (σ1 := []) rfl (cV (n := 193) (bR (d := .int ((c / ts * ts + ts : Nat) : Int)) (aR (i := ((c / ts * ts : Nat) : Int)) (aR (i := ((c / ts : Nat) : Int)) (aR (a := .var 2) (b := .var 1) rfl rfl ((sO (by lia) hs).trans (by rw [pP]))) (b := .var 1) rfl (yi hs)) (b := .var 1) rfl rfl) rfl)))
theorem vz {Δ : Dl} {T : List Nat} {ts : Nat} {ds : List D} : ∀ (r c : Nat) (x3 : Option D), ∃ y3, cC (nF Δ) (bL (List.replicate r 32) ++ ds) (kv T ts c x3) [] = cC (nF Δ) ds (kv T ts (c + r) y3) [] := @fun aa => @(match aa with
 | 0 => @fun c x3 => ⟨x3, rfl⟩
 | r + 1 => @fun c x3 => by
  obtain ⟨y3, e⟩ := vz (ds := ds) r (c + 1) (some (.str [32]))
  refine ⟨y3, ?_⟩
  rw [DT, eM IE]
  rw [Nat.add_assoc, Nat.add_comm 1] at e
  exact e)
theorem Qp {ts k r : Nat} (h : 1 ≤ ts) : (ts * k + r) / ts * ts + ts = ts * (k + (r / ts + 1)) := by
 rw [Nat.mul_add_div h, Nat.mul_comm _ ts, ← Nat.add_assoc, Nat.mul_add ts (k + r / ts), Nat.mul_one]
theorem A6 {Δ : Dl} {T : List Nat} {ts : Nat} {ds : List D} (h1 : 1 ≤ ts) (h2 : ts ≤ 10000) : ∀ (runs : List Nat) (k : Nat) (x3 : Option D), ∃ y3, cC (nF Δ) (bL (bZ runs) ++ ds) (kv T ts (ts * k) x3) [] = cC (nF Δ) ds (kv T ts (ts * (k + nG ts runs)) y3) [] := @fun aa => @(match aa with
 | [] => @fun k x3 => ⟨x3, rfl⟩
 | r :: runs => @fun k x3 => by
  obtain ⟨y3, e1⟩ := vz (Δ := Δ) (T := T) (ts := ts) (ds := .str [9] :: (bL (bZ runs) ++ ds)) r (ts * k) x3
  obtain ⟨z3, e2⟩ := A6 h1 h2 (ds := ds) runs (k + (r / ts + 1)) (some (.str [9]))
  refine ⟨z3, ?_⟩
  have ht : bZ (r :: runs) = List.replicate r 32 ++ (9 :: bZ runs) := List.append_assoc (List.replicate r 32) [9] (bZ runs)
  rw [ht, n8, List.append_assoc]
  refine e1.trans ((eM (IF h1 h2)).trans ?_)
  rw [Qp h1]
  rw [Nat.add_assoc] at e2
  exact e2)
theorem IL {Δ : Dl} {runs : List Nat} {tr ts : Nat} (h1 : 1 ≤ ts) (h2 : ts ≤ 10000) (hl : (bZ runs ++ List.replicate tr 32).length ≤ az) : cM Δ 200 B3 [.str (bZ runs ++ List.replicate tr 32), .int ts] = some (.int ((ts * nG ts runs + tr : Nat) : Int)) := by
 obtain ⟨y3, e1⟩ := A6 (Δ := Δ) (T := bZ runs ++ List.replicate tr 32) (ds := bL (List.replicate tr 32) ++ []) h1 h2 runs 0 none
 obtain ⟨z3, e2⟩ := vz (Δ := Δ) (T := bZ runs ++ List.replicate tr 32) (ts := ts) (ds := []) tr (ts * (0 + nG ts runs)) y3
 have e := e1.trans e2
 rw [Nat.zero_add, Nat.mul_zero, List.append_nil, ← n8] at e
 have ha : (bZ runs ++ List.replicate tr 32).all (· < 128) = true := by rw [List.all_append, FT, za]; rfl
 have hi : ef Δ 197 (.var 0) (kv (bZ runs ++ List.replicate tr 32) ts 0 none) [] = some (bL (bZ runs ++ List.replicate tr 32), []) := (aP (f := ah Δ 196 (.var 0) (kv (bZ runs ++ List.replicate tr 32) ts 0 none)) (k := jj) (x := .str (bZ runs ++ List.replicate tr 32)) rfl).trans (DX ha hl)
 exact aE.run (aE.asg (x := .int 0) rfl rfl (aE.step ((gK hi).trans e) (aE.ret (e := .var 2) rfl rfl))) rfl rfl rfl
noncomputable abbrev D1 (h : Bool) (k : Nat) : Dl := iw T1 h true k
theorem Oa {o : Option Fn} {g : Fn} {h : Bool} {k : Nat} {ds : List D} {r : Option D} (e : o = some g) (q : cM (D1 h k) 200 g ds = r) : yu o (fun f => cM (D1 h k) 200 f ds) = r := by subst e; exact q
theorem fx {h : Bool} {k i : Nat} {g : Fn} {ds : List D} {r : Option D} (e : Aq i = some g) (q : cM (D1 h k) 200 g ds = r) : (D1 h (k + 1)).fns i ds = r := Oa e q
theorem Oc {o : Option Fn} {g : Fn} {h : Bool} {k : Nat} {xs ds : List D} (e : o = some g) : yx o (fun f => eR (D1 h k) 200 f xs ds) = eR (D1 h k) 200 g xs ds := by subst e; rfl
theorem mx {h : Bool} {k i : Nat} {g : Fn} (e : Ar i = some g) (xs ds : List D) : (D1 h (k + 1)).muts i xs ds = eR (D1 h k) 200 g xs ds := Oc e
noncomputable def W1 (N : Nat) : D := c7 (fc (cW N) (dP N) [32, 9]) (cI N) (iF N) (t7 N) (gw N)
noncomputable def tx (N : Nat) : List Nat := txt (cW N) (dP N)
section
variable {h : Bool} {k N : Nat}
theorem AW {n b : Nat} (q : n ≤ 5) (hb : 5 ≤ b) : n ≤ b := Nat.le_trans q hb
theorem M3 : (D1 h (k + 1)).fns 1 [.int N] = some (.str (tx N)) := fx rfl M6
theorem NR (hN : N < 864) : (D1 h (k + 1)).new (.str (tx N ++ [120, 32, 9])) = some (W1 N) := by
 have L := dI hN
 rw [show tx N ++ [120, 32, 9] = fc (cW N) (dP N) [32, 9] from List.append_assoc ..]
 exact (show _ = oJ (D1 h k) 200 kj (.str (fc (cW N) (dP N) [32, 9])) from rfl).trans (LX (fun r hr => Nat.le_trans (L.r4 r hr) (by decide)) L.asc (Nat.le_trans L.len (by decide)))
theorem tK {i : Nat} (hi : i ∈ eo) : 1 ≤ i ∧ i ≤ 5 := by
 have q : ∀ i ∈ eo, 1 ≤ i ∧ i ≤ 5 := by decide
 exact q i hi
theorem qj (hN : N < 864) {i : Nat} (hi : i ∈ eo) : (D1 h (k + 1)).fns 101 [W1 N, .int i] = some (.int (bO N i)) := by
 have q := tK hi
 refine fx rfl ((LR q.1 (Nat.le_trans q.2 (by decide)) (AW (dI hN).c5 (by decide))).trans ?_)
 unfold bO gD
 rw [Int.toNat_natCast]
theorem tV (hN : N < 864) : (D1 h (k + 1)).fns 100 [W1 N] = some (.int (aU N : Nat)) :=
 fx rfl ((Ng (AW (dI hN).c5 (by decide))).trans (congrArg (fun i => some (D.int i)) (dI hN).lng))
theorem zV (hN : N < 864) : (tx N).length ≤ 100 := by
 have L := (dI hN).len
 rw [show fc (cW N) (dP N) [32, 9] = tx N ++ [120, 32, 9] from (List.append_assoc ..).symm, List.length_append] at L
 exact Nat.le_trans (Nat.le_add_right ..) L
theorem IK (hN : N < 864) {i : Nat} (hi : i ∈ eo) : (D1 h (k + 1)).fns 2 [.str (tx N), .int i] = some (.int (bO N i)) := by
 have q := tK hi
 exact fx rfl ((IL q.1 (Nat.le_trans q.2 (by decide)) (Nat.le_trans (zV hN) (by decide))).trans (congrArg (fun i => some (D.int i)) ((dI hN).col i hi).symm))
end
section
variable {h : Bool} {k : Nat} {c : aD}
theorem Fe : (D1 h (k + 1)).fns 3 [c.d] = some (.int c.place) := fx rfl (OA c)
theorem G2 (hc : bq c) : small c.wide = true := by
 have q := jC hc.top
 have r := jY hc
 have l : 0 ≤ c.wide := Int.sub_nonneg_of_le (Int.le_trans (kK c).pa (kZ c).pa)
 exact qL (by lia)
theorem Om (hc : bq c) : (D1 h (k + 2)).fns 4 [c.d] = some (.int c.order) := fx rfl (Oq c (G2 hc) Fe)
theorem gP : (D1 true k).aH = true := by cases k <;> rfl
theorem OZ (hc : bq c) : (D1 true (k + 1)).fns 0 [.flt (aF c.r), .flt (aF c.g), .flt (aF c.b)] = some (.tup [.flt c.bC, .flt c.share, .flt (aF c.top)]) := by
 refine fx rfl ?_
 by_cases h0 : c.wide > 0
 ·have e : c.bC = gu c.place c.wide := by unfold aD.bC aD.P aD.W; rw [if_pos h0, if_pos h0]
  rw [e, show c.share = frac c.wide c.top from if_pos h0]
  exact O3 gP (O0 hc h0)
 ·rw [C6 h0, show c.share = 0 from if_neg h0]
  have e : c.low = c.top := by
   have q : c.low ≤ c.top := Int.le_trans (kK c).pa (kZ c).pa
   have r : ¬ c.top - c.low > 0 := h0
   lia
  have m := Ce hc
  have x := Cd hc
  rw [e] at m
  refine O2 gP ((Ey _ _ _).trans (by rw [x])) (EC m) (top_eq hc)
theorem pA {x : Int} (hx : x ∈ bz) : eX x = true := (qV hx).b
theorem LS : (bz.all fun W => bz.all fun a => W == 0 || decide (W < a) || !Float64.isInf (frac a W)) = true := by decide +kernel
theorem I0 {a W : Int} (ha : a ∈ bz) (hW : W ∈ bz) (w0 : 0 < W) (h : a ≤ W) : dH .Div (.int a) (.int W) = some (.flt (frac a W)) := by
 have q := jV (List.all_eq_true.mp (List.all_eq_true.mp LS W hW) a ha) (by rw [ja (Int.ne_of_gt w0), decide_eq_false (Int.not_lt.mpr h)]; rfl)
 exact if_neg (by rw [ja (Int.ne_of_gt w0), (Bool.not_eq_true' _).mp q]; decide)
theorem EF {W : Int} (hW : W ∈ bz) (h : UInt64) : dH .Mult (.int (6 * W)) (.flt h) = some (.flt (Float64.mul (Float64.ofInt (6 * W)) h)) := mul_if (qV hW).b6
structure Hg (c : aD) : Prop where
 w : c.wide ∈ bz
 F : nf c.wide c.top
 rnd : fh (Float64.mul (Float64.ofInt (6 * c.wide)) c.bC) = some c.place
 div : dH .Div (.int c.wide) (.int c.top) = some (.flt c.share)
 share : c.share = frac c.wide c.top
theorem lK (hc : bq c) (h0 : c.wide > 0) : Hg c := by
 have w := qR hc h0
 have t0 : 0 < c.top := Int.lt_of_lt_of_le h0 (jY hc)
 have r := (jR hc).rnd
 have sh : c.share = frac c.wide c.top := if_pos h0
 replace r : fh (Float64.mul (Float64.ofInt (6 * c.W)) c.bC) = some c.P := r
 rw [show c.P = c.place from if_pos h0, show c.W = c.wide from if_pos h0] at r
 exact ⟨w, pU w hc.top t0 (jY hc), r, by rw [sh]; exact I0 w hc.top t0 (jY hc), sh⟩
theorem O4 (hc : bq c) {i : Int} : (D1 true (k + 2)).fns 6 [oH c i, c.d] = some (.bool true) := by
 refine fx rfl ?_
 by_cases h0 : c.wide > 0
 ·have A := lK hc h0
  exact O5 gP (ja (Int.ne_of_gt h0)) (pA hc.top) (top_eq hc) (share_eq hc) rfl (EF A.w _) A.rnd A.div Fe
 ·have z : (c.wide == 0) = true := beq_iff_eq.mpr (by
   have q : 0 ≤ c.wide := Int.sub_nonneg_of_le (Int.le_trans (kK c).pa (kZ c).pa)
   lia)
  show cM (D1 true (k + 1)) 200 nN [.tup [.flt c.bC, .int i, .flt c.share, .flt (aF c.top)], c.d] = _
  rw [C6 h0, show c.share = 0 from if_neg h0]
  exact O6 gP z (pA hc.top) (top_eq hc) rfl
theorem Ib : eX 64 = true := by decide +kernel
theorem QT (hc : bq c) {i : Int} : (D1 true (k + 1)).fns 7 [oH c i] = some (.lst [.int (way c.place c.wide 0), .int (way c.place c.wide 1), .int (way c.place c.wide 2)]) := by
 refine fx rfl (QU (W := c.wide) gP (mul_if Ib) rfl ?_ ⟨fun h0 => ?_⟩ (G2 hc))
 ·by_cases h0 : c.wide > 0
  ·rw [(lK hc h0).share]; exact (lK hc h0).F.rd
  ·rw [show c.share = 0 from if_neg h0]
   have q : 0 ≤ c.wide := Int.sub_nonneg_of_le (Int.le_trans (kK c).pa (kZ c).pa)
   rw [show c.wide = 0 by lia]
   exact (qV hc.top).rd
 ·exact ⟨_, EF (lK hc h0).w _, (lK hc h0).rnd⟩
noncomputable def jE (A B C : Nat) (i : Int) : aD := ⟨bO A i, bO B i, bO C i⟩
section
variable {A B C : Nat} (hA : A < 864) (hB : B < 864) (hC : C < 864)
theorem xB (hA : A < 864) (hB : B < 864) (hC : C < 864) {i : Nat} (hi : i ∈ eo) : bq (jE A B C i) := ⟨(dI hA).il0 i hi, (dI hB).il0 i hi, (dI hC).il0 i hi⟩
theorem jy (N : Nat) : D.bF (lq (fc (cW N) (dP N) [32, 9]) (cI N) (iF N) (t7 N) (gw N)) = true := z9
theorem NK (hA : A < 864) (hB : B < 864) (hC : C < 864) {i : Nat} (hi : i ∈ eo) : (D1 true (k + 2)).fns 5 [.lst [W1 A, W1 B, W1 C], .int i] = some (oH (jE A B C i) i) := by
 have c := xB hA hB hC hi
 exact fx rfl (NL (c := jE A B C i) gP (jy A) (jy B) (jy C) (qj hA hi) (qj hB hi) (qj hC hi) (pA c.r) (pA c.g) (pA c.b) (OZ c))
end
theorem Jq {S : List (Int × Int)} (hn : ∀ s ∈ S, rB s) (hl : S.length ≤ 100) {h : Bool} : (D1 h (k + 2)).fns 9 [.lst (S.map tp)] = some (.bool (gh S)) :=
 fx rfl (Js ⟨hn, hl, fun s t hs => fx rfl (IU (hn s hs))⟩)
theorem sP {N m : Nat} (hN : N < 864) (hm : aU N < m) (h5 : m ≤ 5) : Flat (bO N) (iF N) (gw N) (aU N) m (1 < (cI N).length) := by
 have L := dI hN
 refine ⟨Int.natCast_nonneg _, by rw [← L.lng]; exact Int.le_max_right .., hm, fun i i1 i2 hc => ?_⟩
 obtain ⟨n, rfl⟩ := mJ (Int.le_trans (by decide) i1)
 have hn : n ∈ eo := by
  have q : ∀ n : Nat, n < 6 → 1 ≤ n → n ∈ eo := by decide
  exact q n (by lia) (by lia)
 rcases L.flat n hn with q | q
 ·exact absurd hc fun r => r.elim (fun r => absurd (Int.ofNat_lt.mp r) (Nat.not_lt.mpr q.1)) fun r => r q.2
 ·exact q
theorem GL {N : Nat} (hN : N < 864) (h : 1 < (cI N).length) : 0 < aU N := by
 have L := (dI hN).lng
 have q : (((cI N).length : Int) - 1) ≤ (aU N : Nat) := by rw [← L]; exact Int.le_max_left ..
 lia
theorem sig_eq {A B : Nat} {i : Nat} (h0 : 0 < i) (e : bO A i = bO B i) (n : gw A = gw B) (t : iF A = iF B) : gD (cI A) i = gD (cI B) i := by
 unfold bO at e
 rw [Int.toNat_natCast, n, t] at e
 have e := Int.eq_of_mul_eq_mul_left (Int.ne_of_gt (Int.natCast_pos.mpr h0)) (Int.add_left_cancel e)
 lia
theorem HE {A B m : Nat} (hA : A < 864) (hB : B < 864) (mA : aU A < m) (mB : aU B < m) (h5 : m ≤ 5) : ((cI A == cI B) && ((iF A == iF B) && true)) = (intsFrom 1 m).all fun i => bO A i == bO B i := by
 have fA := sP hA mA h5
 have fB := sP hB mB h5
 refine Bool.eq_iff_iff.mpr ⟨fun h => i9.mpr fun i ξ ξ => beq_iff_eq.mpr ?_, fun h => ?_⟩
 ·have q := aj h
  have e1 := eq_of_beq q.1
  have e2 := eq_of_beq (aj q.2).1
  have n : gw A = gw B := by rw [← (dI hA).nt, ← (dI hB).nt, e1]
  unfold bO
  rw [e1, e2, n]
 ·have a : ∀ i : Int, 1 ≤ i → i ≤ m → bO A i = bO B i := fun i i1 i2 => eq_of_beq (i9.mp h i i1 (by lia))
  obtain ⟨n, t⟩ := HF fA fB a
  have all : ∀ i : Nat, i ∈ eo → bO A i = bO B i := fun i hi => by
   have q := tK hi
   by_cases im : i ≤ m
   ·exact a i (by lia) (by lia)
   ·have x := (dI hA).flat i hi
    have y := (dI hB).flat i hi
    rw [x.resolve_left (fun r => by lia), y.resolve_left (fun r => by lia), n, t]
  have s : ∀ i : Nat, i ∈ eo → gD (cI A) i = gD (cI B) i := fun i hi => sig_eq (tK hi).1 (all i hi) n t
  rw [(dI hA).sig, (dI hB).sig, s 1 (by decide), s 2 (by decide), s 3 (by decide), s 4 (by decide), n, t, beq_self_eq_true, beq_self_eq_true]; rfl
theorem Ot {h : Bool} {A B m : Nat} {u w : Int → Int} (hA : A < 864) (hB : B < 864) (mA : aU A < m) (mB : aU B < m) (h5 : m ≤ 5) (ha : ∀ i : Int, 1 ≤ i → i ≤ m → decide (w i < u i) = decide (bO A i < bO B i)) (he : ∀ i : Int, 1 ≤ i → i ≤ m → (w i == u i) = (bO A i == bO B i)) :
  (D1 h (k + 3)).fns 10 [W1 A, W1 B, .lst ((intsFrom 1 m).map fun i => bM (bO A i) (bO B i)), .lst ((intsFrom 1 m).map fun i => bM (u i) (w i)), .int ((max (aU A) (aU B) + 1 : Nat) : Int)] = some (.bool true) := by
 have LA := dI hA
 have LB := dI hB
 have hL : max (aU A) (aU B) + 1 ≤ m := Nat.max_lt.mpr ⟨mA, mB⟩
 have em : max ((aU A : Nat) : Int) ((aU B : Nat) : Int) + 1 = ((max (aU A) (aU B) + 1 : Nat) : Int) := by rw [Nx]; rfl
 have il : ∀ {k : Nat} (i : Int), 1 ≤ i → i ≤ ((max (aU A) (aU B) + 1 : Nat) : Int) → (D1 h (k + 1)).fns 101 [W1 A, .int i] = some (.int (bO A i)) ∧ (D1 h (k + 1)).fns 101 [W1 B, .int i] = some (.int (bO B i)) := fun {k} i i1 i2 => by
  obtain ⟨n, rfl⟩ := mJ (Int.le_trans (by decide) i1)
  have hn : n ∈ eo := by
   have q : ∀ n : Nat, n < 6 → 1 ≤ n → n ∈ eo := by decide
   exact q n (by lia) (by lia)
  exact ⟨qj hA hn, qj hB hn⟩
 have lb : ∀ n : Nat, decide (n ≤ 1) = decide ¬ (1 < n) := fun n => decide_eq_decide.mpr Nat.not_lt.symm
 refine fx rfl (Ov (jy A) (jy B) (Nat.le_trans h5 (by decide)) hL ha he ?_ ?_ ?_)
 ·refine fx rfl ((M9 (tV hA) (tV hB) em (Nat.succ_pos _) (Nat.le_trans hL (Nat.le_trans h5 (by decide))) il).trans ?_)
  rw [lb, lb, Na (sP hA mA h5) (sP hB mB h5) LA.one LB.one (GL hA) (GL hB)]
 ·refine fx rfl (Je ?_)
  rw [eq_norm, HE hA hB mA mB h5]
 ·exact fx rfl (NW (jy A) (jy B) (tV hA) (tV hB) em (Nat.le_trans hL (Nat.le_trans h5 (by decide))) il)
end
end Ev
end
section
namespace Ev
open PySem
noncomputable abbrev V1 (zs : List Int) (x1 x2 x3 x4 x5 x6 x7 x8 x9 aW aV mZ m5 m6 Aa : Option D) : af := [some (.lst (zs.map .int)), x1, x2, x3, x4, x5, x6, x7, x8, x9, aW, aV, mZ, m5, m6, Aa, none, none, none, none, none, none, none, none, none, none, none]
section
variable {Δ : Dl} {zs : List Int}
theorem yt (hz : zs.length ≤ 63) (k f : Int) : ∃ N : Nat, N < 864 ∧ ∀ n, ah Δ (n + 1 + 1 + 1 + 1 + 1 + 1 + 1) (.bin .Mod (.bin .Add (.var 2) (.bi .sum [(.eT (.var 5) (some (.var 1)) (some (.lit (.int 12))) (some (.lit (.int 3))))])) (.lit (.int 864))) [none, some (.int k), some (.int f), none, none, some (.lst (zs.map .int))] [] = some (.int N, []) := by
 obtain ⟨ys, e⟩ := PT (zs := zs) (lo := some k) (hi := some 12) (st := some 3) (Nat.le_trans hz (by decide)) (fun q => by cases q)
 have r0 : 0 ≤ (f + sumInts ys).fmod 864 := Int.fmod_nonneg_of_pos _ (by decide)
 have r1 : (f + sumInts ys).fmod 864 < 864 := Int.fmod_lt_of_pos _ (by decide)
 refine ⟨((f + sumInts ys).fmod 864).toNat, by lia, fun n => ?_⟩
 rw [Int.toNat_of_nonneg r0]
 exact aR (aR (a := .var 2) rfl (dK (ds := [.lst (ys.map .int)]) (aN (es := []) (v7 (x := .lst (zs.map .int)) rfl rfl rfl rfl rfl e) rfl) rfl (Qh rfl) rfl rfl) rfl) (b := .lit (.int 864)) rfl (t6 (by decide))
theorem split_len (c : Nat) : ∀ s : List Nat, (cF c s).length ≤ s.length + 1 := @fun aa => match aa with
 | [] => Nat.le_refl 1
 | x :: s => by
  have ih := split_len c s
  show (if x == c then [] :: cF c s else match cF c s with | w :: ws => (x :: w) :: ws | [] => [[x]]).length ≤ s.length + 1 + 1
  cases x == c with
  | true => exact Nat.succ_le_succ ih
  | false =>
   cases q : cF c s with
   | nil => exact Nat.succ_le_succ (Nat.zero_le _)
   | cons w ws => rw [q] at ih; exact Nat.le_succ_of_le ih
theorem Gr (c : Nat) : ∀ {s : List Nat} (w : List Nat), w ∈ cF c s → w.length ≤ s.length := @fun aa => @(match aa with
 | [] => @fun w h => by rw [List.mem_singleton.mp h]; exact Nat.le_refl 0
 | x :: s => @fun w h => by
  have ih := fun w => Gr c (s := s) w
  have h : w ∈ (if x == c then [] :: cF c s else match cF c s with | w :: ws => (x :: w) :: ws | [] => [[x]]) := h
  cases e : x == c with
  | true =>
   rw [e] at h
   exact (List.mem_cons.mp h).elim (fun q => q ▸ Nat.zero_le _) fun q => Nat.le_succ_of_le (ih w q)
  | false =>
   rw [e] at h
   cases q : cF c s with
   | nil => rw [q] at h; rw [List.mem_singleton.mp h]; exact Nat.succ_le_succ (Nat.zero_le _)
   | cons v ws =>
    rw [q] at h ih
    exact (List.mem_cons.mp h).elim (fun r => r ▸ Nat.succ_le_succ (ih v List.mem_cons_self)) fun r => Nat.le_succ_of_le (ih w (List.mem_cons_of_mem _ r)))
theorem Mz {n : Nat} {vars : af} {a b : E} {s : List Nat} {c : Nat} (h1 : ah Δ n a vars [] = some (.str s, [])) (h2 : ah Δ n b vars [] = some (.str [c], [])) (hl : s.length ≤ 1000) : ef Δ (n + 1 + 1) (.split a b) vars [] = some ((cF c s).map .str, []) :=
 (aP (f := ah Δ (n + 1) (.split a b) vars) (k := jj) (x := .lst ((cF c s).map .str)) ((aP (k := fun x => seq1 (ah Δ n b vars) (zw x)) h1).trans ((aP h2).trans (if_pos (Nat.le_trans hl (by decide)))))).trans
  (if_pos (by rw [List.length_map]; exact Nat.le_trans (split_len c s) (Nat.le_trans (Nat.succ_le_succ hl) (by decide))))
theorem My {n : Nat} {vars : af} : ef Δ (n + 1 + 1 + 1 + 1 + 1 + 1) (.enum (.lst [(.lit (.int 475)), (.lit (.int 14)), (.lit (.int 3))])) vars [] = some ([bM 0 475, bM 1 14, bM 2 3], []) := rfl
noncomputable abbrev lg (A B C : Nat) : D := .lst ([A, B, C].map fun N => .str (tx N))
noncomputable abbrev jT (A B C : Nat) : D := .lst ([A, B, C].map W1)
noncomputable abbrev k9 (A B C : Nat) : D := .lst ([A, B, C].map fun N => .int (aU N : Nat))
theorem OI (hz : zs.length ≤ 63) : ∃ A B C : Nat, A < 864 ∧ B < 864 ∧ C < 864 ∧ aJ (D1 false 6) 200 Fk (cj zs) [] = some (.next, V1 zs (some (lg A B C)) (some (jT A B C)) (some (k9 A B C)) none none none none none none none none none none none none, []) := by
 obtain ⟨A, hA, eA⟩ := yt (Δ := D1 false 6) hz 0 475
 obtain ⟨B, hB, eB⟩ := yt (Δ := D1 false 6) hz 1 14
 obtain ⟨C, hC, eC⟩ := yt (Δ := D1 false 6) hz 2 3
 refine ⟨A, B, C, hA, hB, hC, ?_⟩
 have e1 := fR (Δ := D1 false 6) (n := 196) (vars := cj zs) (σ := []) (aq := [none, none, none, none, none, some 0]) (elt := .call 1 [(.bin .Mod (.bin .Add (.var 2) (.bi .sum [(.eT (.var 5) (some (.var 1)) (some (.lit (.int 12))) (some (.lit (.int 3))))])) (.lit (.int 864)))]) (t := .tup [1, 2]) (l := [((0 : Int), (475 : Int), A), (1, 14, B), (2, 3, C)]) (fun p => bM p.1 p.2.1) (fun p => .str (tx p.2.2)) (fun vs => ∃ x y, vs = [none, x, y, none, none, some (.lst (zs.map .int))]) My rfl (by decide : 3 ≤ az) (by
  rintro p hp vs ⟨x, y, rfl⟩
  refine ⟨[none, some (.int p.1), some (.int p.2.1), none, none, some (.lst (zs.map .int))], rfl, ⟨_, _, rfl⟩, ?_⟩
  have go : ∀ {N : Nat}, (∀ n, ah (D1 false 6) (n + 1 + 1 + 1 + 1 + 1 + 1 + 1) (.bin .Mod (.bin .Add (.var 2) (.bi .sum [(.eT (.var 5) (some (.var 1)) (some (.lit (.int 12))) (some (.lit (.int 3))))])) (.lit (.int 864))) [none, some (.int p.1), some (.int p.2.1), none, none, some (.lst (zs.map .int))] [] = some (.int N, [])) → ah (D1 false 6) 197 (.call 1 [(.bin .Mod (.bin .Add (.var 2) (.bi .sum [(.eT (.var 5) (some (.var 1)) (some (.lit (.int 12))) (some (.lit (.int 3))))])) (.lit (.int 864)))]) [none, some (.int p.1), some (.int p.2.1), none, none, some (.lst (zs.map .int))] [] = some (.str (tx N), []) := fun {N} e => fQ (ds := [.int N]) (aN (es := []) (e _) rfl) rfl M3
  rcases List.mem_cons.mp hp with rfl | hp
  ·exact go eA
  ·rcases List.mem_cons.mp hp with rfl | hp
   ·exact go eB
   ·rw [List.mem_singleton.mp hp] at go ⊢; exact go eC) ⟨none, none, rfl⟩
 have lt : ∀ N ∈ [A, B, C], N < 864 := fun N hN => by
  rcases List.mem_cons.mp hN with rfl | hN
  ·exact hA
  ·rcases List.mem_cons.mp hN with rfl | hN
   ·exact hB
   ·rw [List.mem_singleton.mp hN]; exact hC
 have e2 := fR (Δ := D1 false 6) (n := 195) (vars := V1 zs (some (lg A B C)) none none none none none none none none none none none none none none) (σ := []) (aq := [none, none, none]) (elt := .new (.bin .Add (.var 1) (.lit (.str [120, 32, 9])))) (t := .var 1) (it := .var 1) (l := [A, B, C]) (fun N => .str (tx N)) W1 (fun vs => ∃ x, vs = [none, x, none]) (gS rfl (by decide : 3 ≤ az)) rfl (by decide : 3 ≤ az) (by
  rintro N hN vs ⟨x, rfl⟩
  exact ⟨[none, some (.str (tx N)), none], rfl, ⟨_, rfl⟩, Jh (x := .str (tx N ++ [120, 32, 9])) (nK rfl (a := .var 1) (b := .lit (.str [120, 32, 9])) rfl rfl rfl rfl rfl (rI (Nat.le_trans (Nat.add_le_add_right (zV (lt N hN)) 3) (by decide)))) rfl (NR (lt N hN))⟩) ⟨none, rfl⟩
 have e3 := fR (Δ := D1 false 6) (n := 194) (vars := V1 zs (some (lg A B C)) (some (jT A B C)) none none none none none none none none none none none none none) (σ := []) (aq := [none, none, none]) (elt := .bi .max [(.comp [none, none, none] (.bi .len [(.var 1)]) (.var 1) (.split (.var 1) (.lit (.str [9]))) [])]) (t := .var 1) (it := .var 1) (l := [A, B, C]) (fun N => .str (tx N)) (fun N => .int (aU N : Nat)) (fun vs => ∃ x, vs = [none, x, none]) (gS rfl (by decide : 3 ≤ az)) rfl (by decide : 3 ≤ az) (by
  rintro N hN vs ⟨x, rfl⟩
  refine ⟨[none, some (.str (tx N)), none], rfl, ⟨_, rfl⟩, ?_⟩
  have hl := zV (lt N hN)
  exact dK (b := .max) (ds := [.lst ((cF 9 (tx N)).map fun w => .int (w.length : Nat))]) (aN (es := []) (fR (n := 191) (D.str) (fun w => .int (w.length : Nat)) (fun vs => ∃ x, vs = [none, x, none]) (Mz (a := .var 1) (b := .lit (.str [9])) rfl rfl (Nat.le_trans hl (by decide))) rfl (Nat.le_trans (split_len 9 (tx N)) (Nat.le_trans (Nat.succ_le_succ hl) (by decide))) (by
   rintro w hw vs ⟨y, rfl⟩
   refine ⟨[none, some (.str w), none], rfl, ⟨_, rfl⟩, dK (b := .len) (ds := [.str w]) (aN (a := .var 1) (es := []) rfl rfl) rfl (if_pos (Nat.le_trans (Gr 9 w hw) (Nat.le_trans hl (by decide)))) rfl rfl⟩) ⟨none, rfl⟩) rfl) rfl (show c9 .max [.lst ((cF 9 (tx N)).map fun w => .int (w.length : Nat))] = some (.int (aU N : Nat)) from (dI (lt N hN)).pcs) rfl rfl) ⟨none, rfl⟩
 exact (bu (bR e1 rfl)).trans ((bu (bR e2 rfl)).trans ((bu (bR e3 rfl)).trans rfl))
end
end Ev
end
section
namespace Ev
open PySem
structure Out (lt : I5 → I5 → Bool) (m : Nat) : Prop where
 rest : (mL lt m (lW lt m)).2 = []
 len : (ez lt m).length = m
 mem : ∀ a, a ∈ ez lt m ↔ a ∈ aY.take m
 up : mU lt (ez lt m) = true
 key : m ≠ 1 → lH lt (aY.take m) = some (ez lt m)
 back : m ≠ 1 → lH xw (ez lt m) = some (aY.take m)
theorem F9 {x : List I5} {o : Option (List I5)} (h : qG x o = true) : o = some x := by
 cases o with
 | none => exact ai h
 | some y => exact congrArg some (eq_of_beq h)
theorem QC {lt : I5 → I5 → Bool} (O : rF lt) : GQ lt = true := by
 refine List.all_eq_true.mpr fun a ξ => List.all_eq_true.mpr fun b ξ => ?_
 cases h : lt a b with
 | false => rfl
 | true =>
  refine List.all_eq_true.mpr fun c ξ => ?_
  cases g : lt b c with
  | false => rfl
  | true => exact O.trans a b c h g
theorem kQ {lt : I5 → I5 → Bool} (O : rF lt) {m : Nat} (hm : m ∈ [1, 2, 3, 4, 5]) : Out lt m := by
 have t := List.all_eq_true.mp Kw (vo lt) (ye (vo lt))
 rw [Nt O, QC O] at t
 have t := aj (List.all_eq_true.mp (show [1, 2, 3, 4, 5].all (CG lt) = true from t) m hm)
 have t1 := aj t.1
 have t2 := aj t1.1
 have t3 := aj t1.2
 have t4 := aj t3.2
 have k : m ≠ 1 → (qG (ez lt m) (lH lt (aY.take m)) && qG (aY.take m) (lH xw (ez lt m))) = true := fun h => jV t.2 (beq_eq_false_iff_ne.mpr h)
 exact ⟨List.isEmpty_iff.mp t2.1, eq_of_beq t2.2, fun a => ⟨fun h => List.contains_iff_mem.mp (List.all_eq_true.mp t4.1 a h), fun h => List.contains_iff_mem.mp (List.all_eq_true.mp t3.1 a h)⟩, t4.2, fun h => F9 (aj (k h)).1, fun h => F9 (aj (k h)).2⟩
noncomputable def sz (a : I5) : Int := ((a.val + 1 : Nat) : Int)
theorem GF {a b : I5} : sz a < sz b ↔ a < b := by unfold sz; rw [Fin.lt_def]; omega
theorem zH {a b : I5} (h : sz a = sz b) : a = b := Fin.ext (by unfold sz at h; lia)
theorem zI (a : I5) : a.val + 1 ∈ eo := by revert a; decide
theorem Dd {m : Nat} (hm : m ∈ [1, 2, 3, 4, 5]) : intsFrom 1 m = (aY.take m).map sz := by revert m; decide
theorem tC {m : Nat} (hm : m ∈ [1, 2, 3, 4, 5]) : (aY.take m).length = m := by revert m; decide
theorem LN {m : Nat} (hm : m ∈ [1, 2, 3, 4, 5]) : ∀ a ∈ aY.take m, (aY.take m)[a.val]? = some a := by revert m; decide
section
variable (A B C : Nat)
noncomputable def cA (a : I5) : aD := jE A B C (sz a)
noncomputable def encA (a : I5) : D := oH (cA A B C a) (sz a)
noncomputable def dO (a b : I5) : Bool := decide ((cA A B C a).pos < (cA A B C b).pos ∨ (cA A B C a).pos = (cA A B C b).pos ∧ sz a < sz b)
end
section
variable {A B C : Nat} (hA : A < 864) (hB : B < 864) (hC : C < 864)
theorem gv (hA : A < 864) (hB : B < 864) (hC : C < 864) (a : I5) : bq (cA A B C a) := xB hA hB hC (zI a)
theorem Bw (hA : A < 864) (hB : B < 864) (hC : C < 864) : i5 (encA A B C) (dO A B C) where
 lt := fun a b => Pa (gv hA hB hC a) (gv hA hB hC b) fun e => by rw [zH e]
 pure := fun ξ => rfl
 dep := fun ξ => (by decide : 1 ≤ 50)
theorem kO : rF (dO A B C) where
 irr := fun a => decide_eq_false (by lia)
 asym := fun a b h => by
  have q := GF.mpr h
  unfold dO
  rw [← decide_not]
  exact decide_eq_decide.mpr (by lia)
 trans := fun a b c h g => by
  have h := of_decide_eq_true h
  have g := of_decide_eq_true g
  exact decide_eq_true (by lia)
theorem yI {b x : Nat} {xs : List D} : cL (cQ .Gt) (.int b) (.int x :: xs) = cL (cQ .Gt) (.int ((max b x : Nat) : Int)) xs := by
 show (match some (decide ((x : Int) > b)) with | some true => cL (cQ .Gt) (.int x) xs | some false => cL (cQ .Gt) (.int b) xs | none => none) = _
 by_cases h : (x : Int) > b
 ·rw [decide_eq_true h, Nat.max_eq_right (Nat.le_of_lt (Int.ofNat_lt.mp h))]
 ·rw [decide_eq_false h, Nat.max_eq_left (Nat.le_of_not_lt fun q => h (Int.ofNat_lt.mpr q))]
noncomputable def be (A B C : Nat) : Nat := max (max (aU A) (aU B)) (aU C) + 1
theorem fV (hA : A < 864) (hB : B < 864) (hC : C < 864) : be A B C ∈ [1, 2, 3, 4, 5] := by
 have q : be A B C ≤ 5 := Nat.succ_le_succ (Nat.max_le.mpr ⟨Nat.max_le.mpr ⟨(dI hA).t4, (dI hB).t4⟩, (dI hC).t4⟩)
 have r : ∀ m : Nat, m < 6 → 0 < m → m ∈ [1, 2, 3, 4, 5] := by decide
 exact r _ (Nat.lt_succ_of_le q) (Nat.succ_pos _)
noncomputable abbrev Gj (m : Nat) : D := .lst ((aY.take m).map fun a => .int (sz a))
theorem PO {m : Nat} (hm : m ∈ [1, 2, 3, 4, 5]) : (intsFrom 1 m).map D.int = (aY.take m).map fun a => .int (sz a) := by rw [Dd hm, List.map_map]; rfl
theorem OO {a b : Int} (h0 : small a = true) (h1 : small b = true) (h2 : (b - a).toNat ≤ az) : jo [.int a, .int b] = some (a, b) := if_pos (by rw [h0, h1, decide_eq_true h2]; rfl)
theorem PR {zs : List Int} (hA : A < 864) (hB : B < 864) (hC : C < 864) : ah (D1 false 6) 200 Bp (V1 zs (some (lg A B C)) (some (jT A B C)) (some (k9 A B C)) none none none none none none none none none none none none) [] = some (Gj (be A B C), []) := by
 have hm := fV hA hB hC
 have h5 : be A B C ≤ 5 := by
  have q : ∀ m ∈ [1, 2, 3, 4, 5], m ≤ 5 := by decide
  exact q _ hm
 have mx : c9 .max [k9 A B C] = some (.int ((max (max (aU A) (aU B)) (aU C) : Nat) : Int)) := yI.trans yI
 have hn : (((max (max (aU A) (aU B)) (aU C) : Nat) : Int) + 2 - 1).toNat = be A B C := by unfold be; lia
 have sm : small (((max (max (aU A) (aU B)) (aU C) : Nat) : Int) + 2) = true := jX (n := max (max (aU A) (aU B)) (aU C) + 2) (by unfold be at h5; lia)
 have e : bA (D1 false 6) 199 [.lit (.int 1), .bin .Add (.bi .max [(.var 3)]) (.lit (.int 2))] (V1 zs (some (lg A B C)) (some (jT A B C)) (some (k9 A B C)) none none none none none none none none none none none none) [] = some ([.int 1, .int (((max (max (aU A) (aU B)) (aU C) : Nat) : Int) + 2)], []) := aN (a := .lit (.int 1)) rfl (aN (es := []) (aR (dK (ds := [k9 A B C]) (aN (a := .var 3) (es := []) rfl rfl) rfl mx rfl rfl) (b := .lit (.int 2)) rfl rfl) rfl)
 refine (aP (k := fun ds σ => (jo ds).map fun p => (D.lst (fF p.1 p.2), σ)) e).trans ?_
 show (jo [.int 1, .int (((max (max (aU A) (aU B)) (aU C) : Nat) : Int) + 2)]).map _ = _
 rw [OO rfl sm (by rw [hn]; exact Nat.le_trans h5 (by decide))]
 show some (D.lst (fF 1 (((max (max (aU A) (aU B)) (aU C) : Nat) : Int) + 2)), []) = _
 rw [yZ, hn, PO hm]
end
end Ev
end
section
namespace Ev
open PySem
section
variable {α : Type} [Inhabited α] {lt : α → α → Bool} {enc : α → D} {Δ : Dl}
theorem Gh {pos : Nat} {xs : List α} (h : pos < xs.length) : (kU lt pos xs).length = xs.length := by
 unfold kU
 rw [List.length_set, (zh (lt := lt) _ pos pos xs h).1]
theorem CY (h : List α) (x : α) : (kE lt h x).length = h.length + 1 := by
 unfold kE
 rw [Gh (by rw [List.length_append]; exact Nat.lt_succ_self _), List.length_append]; rfl
theorem PM {xs : List α} (h : 0 < xs.length) : (qI lt xs).length = xs.length := by
 have q := zD (lt := lt) xs.length 0 xs h
 unfold qI
 rw [Gh (by rw [List.length_set, q.1]; exact q.2), List.length_set, q.1]
theorem K6 {h : List α} {k : Nat} (e : h.length = k + 1) : (gQ lt h).2.length = k := by
 unfold gQ
 by_cases q : h.length ≤ 1
 ·rw [if_pos q]; show 0 = k; lia
 ·rw [if_neg q, PM (by rw [List.length_set, List.length_dropLast]; lia), List.length_set, List.length_dropLast, e]; rfl
theorem Fl {f : D → af → ae → Option (aI × af × ae)} {item : α → D} (I : af → Prop) (hf : ∀ (a : α) (h : List α) vs, h.length ≤ 800 → I vs → ∃ bj, f (item a) vs [some (.lst (h.map enc))] = some (.next, bj, [some (.lst ((kE lt h a).map enc))]) ∧ I bj) : ∀ (l h : List α) (vs : af), h.length + l.length ≤ 800 → I vs → ∃ bj, cC f (l.map item) vs [some (.lst (h.map enc))] = some (.next, bj, [some (.lst ((l.foldl (kE lt) h).map enc))]) ∧ I bj := @fun aa => @(match aa with
 | [] => @fun h vs ξ i => ⟨vs, rfl, i⟩
 | a :: l => @fun h vs hl i => by
  obtain ⟨cj, e1, i1⟩ := hf a h vs (Nat.le_trans (Nat.le_add_right ..) hl) i
  obtain ⟨mY, e2, i2⟩ := Fl I hf l (kE lt h a) cj (by rw [CY, Nat.add_right_comm]; exact hl) i1
  exact ⟨mY, (eM (ds := l.map item) e1).trans e2, i2⟩)
theorem Ff {β : Type} {f : D → af → ae → Option (Option D × af × ae)} {item : β → D} (I : af → Prop) (hf : ∀ (a : β) (h : List α) vs, 0 < h.length → h.length ≤ 800 → I vs → ∃ bj, f (item a) vs [some (.lst (h.map enc))] = some (some (enc (gQ lt h).1), bj, [some (.lst ((gQ lt h).2.map enc))]) ∧ I bj) : ∀ (l : List β) (h : List α) (vs : af), h.length = l.length → h.length ≤ 800 → I vs → d8 f (l.map item) vs [some (.lst (h.map enc))] = some ((mL lt l.length h).1.map enc, [some (.lst ((mL lt l.length h).2.map enc))]) := @fun aa => @(match aa with
 | [] => @fun h vs ξ ξ i => rfl
 | a :: l => @fun h vs hl h8 i => by
  obtain ⟨cj, e1, i1⟩ := hf a h vs (by rw [hl]; exact Nat.succ_pos _) h8 i
  have hk := K6 (lt := lt) hl
  have ih := Ff I hf l (gQ lt h).2 cj hk (by rw [hk]; exact Nat.le_of_succ_le (Nat.le_trans (Nat.le_of_eq hl.symm) h8)) i1
  show ((f (item a) vs _).bind fun r => (d8 f (l.map item) r.2.1 r.2.2).map fun q => (rY r.1 q.1, q.2)) = _
  rw [e1]
  show ((d8 f (l.map item) cj _).map fun q => (rY (some (enc (gQ lt h).1)) q.1, q.2)) = _
  rw [ih]; rfl)
end
section
variable {A B C : Nat} {zs : List Int}
noncomputable abbrev fH (A B C : Nat) : D := .lst ((aY.take (be A B C)).map fun a => (cA A B C a).d)
noncomputable abbrev vA (zs : List Int) (A B C : Nat) (x5 x6 x7 x8 x9 aW aV mZ m5 m6 Aa : Option D) : af := V1 zs (some (lg A B C)) (some (jT A B C)) (some (k9 A B C)) (some (Gj (be A B C))) x5 x6 x7 x8 x9 aW aV mZ m5 m6 Aa
theorem NB {P : Nat → Prop} (hA : P A) (hB : P B) (hC : P C) : ∀ N ∈ [A, B, C], P N := fun N hN => by
 rcases List.mem_cons.mp hN with rfl | hN
 ·exact hA
 ·rcases List.mem_cons.mp hN with rfl | hN
  ·exact hB
  ·rw [List.mem_singleton.mp hN]; exact hC
theorem mw (hA : A < 864) (hB : B < 864) (hC : C < 864) : (aY.take (be A B C)).length ≤ az := by
 rw [tC (fV hA hB hC)]
 have q : ∀ m ∈ [1, 2, 3, 4, 5], m ≤ 5 := by decide
 exact Nat.le_trans (q _ (fV hA hB hC)) (by decide)
theorem MY {i : Int} : D.aL [jT A B C, .int i] = true := by
 show (D.aL ([A, B, C].map W1) && (true && true)) = true
 rw [gC W1 (fun ξ => jn)]; rfl
theorem IM (hA : A < 864) (hB : B < 864) (hC : C < 864) : ah (D1 true 6) 198 (.comp [none, none, some 1] (.comp [none, none, none, some 1] (.call 2 [(.var 1), (.var 3)]) (.var 1) (.var 2) []) (.var 1) (.var 4) []) (vA zs A B C none none none none none none none none none none none) [] = some (fH A B C, []) := by
 have hl := mw hA hB hC
 refine fR (n := 196) (fun a => .int (sz a)) (fun a => (cA A B C a).d) (fun vs => ∃ x, vs = [none, x, some (lg A B C)]) (gS rfl hl) rfl hl (by
  rintro a ha vs ⟨x, rfl⟩
  refine ⟨[none, some (.int (sz a)), some (lg A B C)], rfl, ⟨_, rfl⟩, ?_⟩
  exact fR (n := 195) (l := [A, B, C]) (fun N => .str (tx N)) (fun N => .int (bO N (sz a))) (fun vs => ∃ x, vs = [none, x, none, some (.int (sz a))]) (gS rfl (by decide : 3 ≤ az)) rfl (by decide : 3 ≤ az) (by
   rintro N hN vs ⟨y, rfl⟩
   exact ⟨[none, some (.str (tx N)), none, some (.int (sz a))], rfl, ⟨_, rfl⟩, fQ (ds := [.str (tx N), .int (sz a)]) rfl rfl (IK (NB (P := (· < 864)) hA hB hC N hN) (zI a))⟩) ⟨none, rfl⟩) ⟨none, rfl⟩
noncomputable abbrev xj (h : List I5) (A B C : Nat) : ae := [some (.lst (h.map (encA A B C)))]
theorem JC (hA : A < 864) (hB : B < 864) (hC : C < 864) : ∃ x5, bK (D1 true 6) 197 (.for (.var 5) (.var 4) [.expr (.eN 0 (.var 6) [(.call 5 [(.var 2), (.var 5)])])]) (vA zs A B C none (some (.loc 0)) none none none none none none none none (some (fH A B C))) [some (.lst [])] = some (.next, vA zs A B C x5 (some (.loc 0)) none none none none none none none none (some (fH A B C)), xj (lW (dO A B C) (be A B C)) A B C) := by
 have hl := mw hA hB hC
 have l5 : (aY.take (be A B C)).length ≤ 5 := by rw [List.length_take]; exact Nat.min_le_right _ 5
 have E := Bw hA hB hC
 obtain ⟨bj, e, x5, rfl⟩ := Fl (lt := dO A B C) (enc := encA A B C) (item := fun a => D.int (sz a)) (f := fun d vars σ => (cz (.var 5) d vars).bind fun vars => aJ (D1 true 6) 196 [.expr (.eN 0 (.var 6) [(.call 5 [(.var 2), (.var 5)])])] vars σ) (fun vs => ∃ x5, vs = vA zs A B C x5 (some (.loc 0)) none none none none none none none none (some (fH A B C))) (by
  rintro a h vs h8 ⟨x5, rfl⟩
  refine ⟨vA zs A B C (some (.int (sz a))) (some (.loc 0)) none none none none none none none none (some (fH A B C)), ?_, _, rfl⟩
  exact cV (n := 194) (lP (pJ (l := 0) (o := .var 6) (ds := [encA A B C a]) rfl (aN (es := []) (fQ (ds := [jT A B C, .int (sz a)]) rfl MY (NK hA hB hC (zI a))) rfl) rfl rfl (gC _ (fun ξ => rfl) _) ((mx rfl _ _).trans (OM E (fun xs ds => mx rfl xs ds) h8)) rfl))) (aY.take (be A B C)) [] (vA zs A B C none (some (.loc 0)) none none none none none none none none (some (fH A B C))) (Nat.le_trans (Nat.le_of_eq (Nat.zero_add _)) (Nat.le_trans l5 (by decide))) ⟨none, rfl⟩
 exact ⟨x5, (gK (gS rfl hl)).trans e⟩
theorem OF (hA : A < 864) (hB : B < 864) (hC : C < 864) {x5 : Option D} : ah (D1 true 6) 195 (.comp [none, none, none, some 6] (.eN 1 (.var 3) []) (.var 1) (.var 4) []) (vA zs A B C x5 (some (.loc 0)) none none none none none none none none (some (fH A B C))) (xj (lW (dO A B C) (be A B C)) A B C) = some (.lst ((ez (dO A B C) (be A B C)).map (encA A B C)), [some (.lst [])]) := by
 have hl := mw hA hB hC
 have hm := fV hA hB hC
 have E := Bw hA hB hC
 have O := kQ (kO (A := A) (B := B) (C := C)) hm
 have len : ∀ (l h : List I5), (l.foldl (kE (dO A B C)) h).length = h.length + l.length := fun l => by
  induction l with
  | nil => exact fun h => rfl
  | cons a l ih => exact fun h => (ih _).trans (by rw [CY, Nat.add_right_comm]; rfl)
 have hlen : (lW (dO A B C) (be A B C)).length = (aY.take (be A B C)).length := (len _ _).trans (Nat.zero_add _)
 have l5 : (aY.take (be A B C)).length ≤ 5 := by rw [List.length_take]; exact Nat.min_le_right _ 5
 have e := Ff (lt := dO A B C) (enc := encA A B C) (item := fun (a : I5) => D.int (sz a)) (f := fq (.var 1) (fun vs σ => iD (D1 true 6) 194 [] vs σ) (fun vs σ => ah (D1 true 6) 194 (.eN 1 (.var 3) []) vs σ)) (fun vs => ∃ x, vs = [none, x, none, some (.loc 0)]) (by
  rintro a h vs h0 h8 ⟨x, rfl⟩
  refine ⟨[none, some (.int (sz a)), none, some (.loc 0)], ?_, _, rfl⟩
  show ((ah (D1 true 6) 194 (.eN 1 (.var 3) []) [none, some (.int (sz a)), none, some (.loc 0)] _).map _) = _
  rw [pJ (l := 0) (o := .var 3) (es := []) (ds := []) (bX := xj (gQ (dO A B C) h).2 A B C) rfl rfl rfl rfl (gC _ (fun ξ => rfl) _) ((mx rfl _ _).trans (OE E (fun xs ds => mx rfl xs ds) (fun xs ds => mx rfl xs ds) h0 (Nat.le_trans h8 (by decide)))) rfl]; rfl) (aY.take (be A B C)) (lW (dO A B C) (be A B C)) [none, none, none, some (.loc 0)] hlen (by rw [hlen]; exact Nat.le_trans l5 (by decide)) ⟨none, rfl⟩
 rw [tC hm, O.rest] at e
 exact vX (gS rfl hl) rfl (by rw [List.length_map]; exact hl) e
theorem NF (hA : A < 864) (hB : B < 864) (hC : C < 864) : ∃ x5, aJ (D1 true 6) 200 EB (vA zs A B C none none none none none none none none none none none) [] = some (.next, vA zs A B C x5 (some (.loc 0)) (some (.lst ((ez (dO A B C) (be A B C)).map (encA A B C)))) none none none none none none none (some (fH A B C)), [some (.lst [])]) := by
 obtain ⟨x5, e⟩ := JC (zs := zs) hA hB hC
 refine ⟨x5, (bu (bR (IM hA hB hC) rfl)).trans ((bu (n := 198) (vars' := vA zs A B C none (some (.loc 0)) none none none none none none none none (some (fH A B C))) (σ' := [some (.lst [])]) (bR (d := .loc 0) rfl rfl)).trans ((bu e).trans ((bu (bR (OF hA hB hC) rfl)).trans rfl)))⟩
end
end Ev
end
section
namespace Ev
open PySem
theorem AV {lt : I5 → I5 → Bool} {l o : List I5} {less : Nat → Nat → Option Bool} (e : lH lt l = some o) (h : ∀ i j b, xX lt l i j = some b → less i j = some b) (f : I5 → D) : ((gZ less (PySem.W.kas_sort l.length)).map fun p => p.toList.map fun i => (l.map f).getD i .none) = some (o.map f) := by
 obtain ⟨p, e1, e2⟩ := Option.bind_eq_some_iff.mp e
 obtain ⟨hp, e2⟩ := bx e2
 rw [GR h _ e1, ← Option.some.inj e2, List.map_map]
 refine congrArg some (List.map_congr_left fun i hi => ?_)
 have q : i < l.length := of_decide_eq_true (List.all_eq_true.mp hp i hi)
 show (l.map f).getD i .none = f (l.getD i 0)
 rw [List.getD_eq_getElem?_getD, List.getD_eq_getElem?_getD, List.getElem?_map, List.getElem?_eq_getElem q]; rfl
theorem D7 {lt : I5 → I5 → Bool} {l : List I5} {t : I5 → List D} (ht : ∀ a b, a ≠ b → iS (t a) (t b) = some (lt a b)) : ∀ i j b, xX lt l i j = some b → mG (l.map fun a => .tup (t a)) i j = some b := fun i j b e => by
 obtain ⟨x, e1, e2⟩ := Option.bind_eq_some_iff.mp e
 obtain ⟨y, e3, e4⟩ := Option.bind_eq_some_iff.mp e2
 obtain ⟨n, e5⟩ := gT e4
 unfold mG
 rw [List.getElem?_map, List.getElem?_map, e1, e3]
 exact (ht x y n).trans e5
theorem xY {x y : Int} {as bs : List D} (h : x ≠ y) : iS (.int x :: as) (.int y :: bs) = some (decide (x < y)) := by
 show (if x == y then iS as bs else some (decide (x < y))) = _
 rw [beq_eq_false_iff_ne.mpr h]; rfl
theorem M8 {x : Int} {as bs : List D} : iS (.int x :: as) (.int x :: bs) = iS as bs := by
 show (if x == x then iS as bs else some (decide (x < x))) = _
 rw [beq_self_eq_true]; rfl
section
variable {A B C : Nat}
noncomputable def mF (A B C : Nat) (a : I5) : List D := [.int (cA A B C a).order, .int (sz a)]
theorem MM (hA : A < 864) (hB : B < 864) (hC : C < 864) (a b : I5) (h : a ≠ b) : iS (mF A B C a) (mF A B C b) = some (dO A B C a b) := by
 have o := Oo (gv hA hB hC a) (gv hA hB hC b)
 have n : sz a ≠ sz b := fun q => h (zH q)
 unfold mF dO
 by_cases e : (cA A B C a).order = (cA A B C b).order
 ·have p := o.2.mp e
  rw [e, M8, xY n]
  exact congrArg some (decide_eq_decide.mpr ⟨fun q => .inr ⟨p, q⟩, fun q => q.elim (fun q => absurd p (Int.ne_of_lt q)) And.right⟩)
 ·rw [xY e]
  exact congrArg some (decide_eq_decide.mpr (o.1.trans ⟨.inl, fun q => q.elim id fun q => absurd (o.2.mpr q.1) e⟩))
theorem heads (t : I5 → List D) (ht : ∀ a, ku (.tup (t a)) = true) (l : List I5) : (l.map fun a => D.tup (t a)).all ku = true := List.all_eq_true.mpr fun d hd => by
 obtain ⟨a, _, rfl⟩ := List.mem_map.mp hd
 exact ht a
theorem D6 {lt : I5 → I5 → Bool} {m : Nat} (hm : m ∈ [1, 2, 3, 4, 5]) (O : Out lt m) (h : m = 1) : ez lt m = aY.take m := by
 subst h
 have e := O.len
 have q := O.mem
 match hq : ez lt 1 with
 | [] => rw [hq] at e; exact absurd e (by decide)
 | [a] =>
  rw [hq] at q
  have r := (q a).mp (List.mem_singleton.mpr rfl)
  rw [List.mem_singleton.mp (show a ∈ [(0 : I5)] from r)]; rfl
 | a :: b :: l => rw [hq] at e; exact absurd (Nat.succ.inj e) (Nat.succ_ne_zero _)
theorem Em {m : Nat} (hm : m ∈ [1, 2, 3, 4, 5]) : m < 64 ∧ (m < 2 → m = 1) := by revert m; decide
theorem MN (hA : A < 864) (hB : B < 864) (hC : C < 864) : kX ((aY.take (be A B C)).map fun a => .tup (mF A B C a)) ((aY.take (be A B C)).map fun a => .int (sz a)) = some ((ez (dO A B C) (be A B C)).map fun a => .int (sz a)) := by
 have hm := fV hA hB hC
 have O := kQ (kO (A := A) (B := B) (C := C)) hm
 have hl := tC hm
 have dM := Em hm
 unfold kX
 rw [List.length_map, List.length_map, if_pos ⟨rfl, by rw [hl]; exact dM.1, heads _ (fun ξ => rfl) _⟩]
 by_cases h2 : (aY.take (be A B C)).length < 2
 ·rw [if_pos h2, D6 hm O (dM.2 (hl ▸ h2))]
 ·rw [if_neg h2]
  exact AV (O.key fun q => h2 (by rw [hl, q]; decide)) (D7 (MM hA hB hC)) fun a => .int (sz a)
noncomputable abbrev outD (A B C : Nat) : List I5 := ez (dO A B C) (be A B C)
noncomputable abbrev uw (A B C : Nat) : D := .lst ((outD A B C).map (encA A B C))
theorem kP (hA : A < 864) (hB : B < 864) (hC : C < 864) : (outD A B C).length ≤ az := by
 have O := kQ (kO (A := A) (B := B) (C := C)) (fV hA hB hC)
 exact Nat.le_trans (Nat.le_of_eq (O.len.trans (tC (fV hA hB hC)).symm)) (mw hA hB hC)
theorem Bc (hA : A < 864) (hB : B < 864) (hC : C < 864) {a : I5} (ha : a ∈ aY.take (be A B C)) : ((aY.take (be A B C)).map fun a => (cA A B C a).d)[(sz a - 1).toNat]? = some (cA A B C a).d := by
 have e : (sz a - 1).toNat = a.val := by unfold sz; lia
 rw [e, List.getElem?_map, LN (fV hA hB hC) a ha]; rfl
theorem GG (a : I5) : small (sz a - 1) = true ∧ 0 ≤ sz a - 1 := ⟨qL (by unfold sz; omega), by unfold sz; omega⟩
theorem ML (hA : A < 864) (hB : B < 864) (hC : C < 864) {σ : ae} {a : I5} (ha : a ∈ aY.take (be A B C)) : ah (D1 true 4) 100 Bt [some (.int (sz a)), some (fH A B C), none] σ = some (.tup (mF A B C a), σ) := by
 have s := GG a
 exact jI (ds := mF A B C a) (aN (fQ (ds := [(cA A B C a).d]) (aN (es := []) (bY (a := .var 1) (b := .bin .Sub (.var 0) (.lit (.int 1))) (x := fH A B C) rfl (aR (a := .var 0) (b := .lit (.int 1)) rfl rfl rfl) rfl rfl s.2 s.1 (Bc hA hB hC ha)) rfl) rfl (Om (k := 2) (gv hA hB hC a))) (aN (a := .var 0) (es := []) rfl rfl)) (by decide : 2 ≤ az)
theorem PN {n : Nat} {vars : af} {σ : ae} (hA : A < 864) (hB : B < 864) (hC : C < 864) (h : (vars[7]?).join = some (uw A B C)) : ah (D1 true 6) (n + 1 + 1 + 1 + 1) Bu vars σ = some (.lst ((outD A B C).map fun a => .int (sz a)), σ) :=
 fR (n := n + 2) (encA A B C) (fun a => .int (sz a)) (fun vs => ∃ x, vs = [none, x]) (gS h (kP hA hB hC)) rfl (kP hA hB hC) (by
  rintro a ha vs ⟨x, rfl⟩
  exact ⟨[none, some (encA A B C a)], rfl, ⟨_, rfl⟩, bY (a := .var 1) (b := .lit (.int 1)) (k := 1) rfl rfl rfl rfl (by decide) rfl rfl⟩) ⟨none, rfl⟩
end
end Ev
end
section
namespace Ev
open PySem
section
variable {A B C : Nat} {zs : List Int} {x5 : Option D}
noncomputable abbrev vB (zs : List Int) (A B C : Nat) (x5 x8 x9 aW aV mZ m5 m6 : Option D) : af := vA zs A B C x5 (some (.loc 0)) (some (uw A B C)) x8 x9 aW aV mZ m5 m6 (some (fH A B C))
noncomputable abbrev pG : ae := [some (.lst []), some (.lst [])]
noncomputable abbrev eK : ae := [some (.lst []), some (.lst []), some (.lst [])]
theorem EA (hA : A < 864) (hB : B < 864) (hC : C < 864) {a : I5} (ha : a ∈ outD A B C) : a ∈ aY.take (be A B C) := ((kQ (kO (A := A) (B := B) (C := C)) (fV hA hB hC)).mem a).mp ha
theorem GO {Δ : Dl} {n f : Nat} {es : List E} {vars : af} {σ σ1 : ae} {t : Bool} (h : ah Δ n (.call f es) vars σ = some (.bool t, σ1)) : aX Δ (n + 1) (.call f es) vars σ = some (t, σ1) := (aP (k := fun x σ => (g8 x σ).map fun t => (t, σ)) h).trans rfl
theorem mV {Δ : Dl} {n i : Nat} {vars : af} {σ : ae} {d : D} (h : (vars[i]?).join = some d) : ah Δ (n + 1) (.var i) vars σ = some (d, σ) := by
 show ((vars[i]?).join.map _) = _
 rw [h]; rfl
theorem FP {Δ : Dl} {n : Nat} {vars : af} {σ : ae} {a : I5} (h : (vars[1]?).join = some (encA A B C a)) : ah Δ (n + 1 + 1) (.idx (.var 1) (.lit (.int 1))) vars σ = some (.int (sz a), σ) := bY (b := .lit (.int 1)) (x := encA A B C a) (y := encA A B C a) (k := 1) (mV h) rfl rfl rfl (by decide) rfl rfl
theorem O7 (hA : A < 864) (hB : B < 864) (hC : C < 864) : ah (D1 true 6) 196 (.comp [none, none, none, some 15] (.var 1) (.var 1) (.var 7) [(.not (.call 6 [(.var 1), (.idx (.var 3) (.bin .Sub (.idx (.var 1) (.lit (.int 1))) (.lit (.int 1))))]))]) (vB zs A B C x5 none none none none none none none) pG = some (.lst [], pG) := by
 have e := vY (Δ := D1 true 6) (n := 193) (vars := vB zs A B C x5 none none none none none none none) (σ := pG) (aq := [none, none, none, some 15]) (elt := .var 1) (t := .var 1) (it := .var 7) (c := .not (.call 6 [(.var 1), (.idx (.var 3) (.bin .Sub (.idx (.var 1) (.lit (.int 1))) (.lit (.int 1))))])) (encA A B C) (encA A B C) (fun ξ => false) (fun vs => ∃ x, vs = [none, x, none, some (fH A B C)]) (gS rfl (kP hA hB hC)) rfl (kP hA hB hC) (by
  rintro a ha vs ⟨x, rfl⟩
  have s := GG a
  refine ⟨[none, some (encA A B C a), none, some (fH A B C)], rfl, ⟨_, rfl⟩, ?_, fun q => Bool.noConfusion q⟩
  exact uL (t := true) (GO (fQ (n := 191) (ds := [encA A B C a, (cA A B C a).d]) (aN (a := .var 1) rfl (aN (es := []) (bY (a := .var 3) (b := .bin .Sub (.idx (.var 1) (.lit (.int 1))) (.lit (.int 1))) (x := fH A B C) rfl (aR (FP rfl) (b := .lit (.int 1)) rfl rfl) rfl rfl s.2 s.1 (Bc hA hB hC (EA hA hB hC ha))) rfl)) rfl (O4 (gv hA hB hC a))))) ⟨none, rfl⟩
 rw [show (outD A B C).filter (fun ξ => false) = [] from List.filter_eq_nil_iff.mpr fun ξ ξ q => Bool.noConfusion q] at e
 exact e
noncomputable def uO (c : aD) : D := .lst [.int (way c.place c.wide 0), .int (way c.place c.wide 1), .int (way c.place c.wide 2)]
noncomputable def jU (A B C : Nat) (a : I5) : List D := [.int (sz a), uO (cA A B C a)]
noncomputable abbrev EM (A B C : Nat) : D := .lst ((aY.take (be A B C)).map fun a => uO (cA A B C a))
theorem PY {h : Bool} {k : Nat} : (D1 h k).di = true := by cases k <;> rfl
theorem NQ (hA : A < 864) (hB : B < 864) (hC : C < 864) : qM ((outD A B C).map fun a => .tup (jU A B C a)) = some ((aY.take (be A B C)).map fun a => .tup (jU A B C a)) := by
 have hm := fV hA hB hC
 have O := kQ (kO (A := A) (B := B) (C := C)) hm
 have hl := O.len
 have dM := Em hm
 unfold qM
 rw [List.length_map, if_pos ⟨by rw [hl]; exact dM.1, heads _ (fun ξ => rfl) _⟩]
 by_cases h2 : (outD A B C).length < 2
 ·rw [if_pos h2, show outD A B C = _ from D6 hm O (dM.2 (hl ▸ h2))]
 ·rw [if_neg h2]
  exact AV (O.back fun q => h2 (by rw [hl, q]; decide)) (D7 (t := jU A B C) fun a b n => (xY fun q => n (zH q)).trans (congrArg some (decide_eq_decide.mpr GF))) fun a => .tup (jU A B C a)
theorem NO (hA : A < 864) (hB : B < 864) (hC : C < 864) : ah (D1 true 6) 197 (.comp [none, none, none] (.var 2) (.tup [1, 2]) (.bi .sorted [(.comp [none, none, none] (.tup [(.idx (.var 1) (.lit (.int 1))), (.call 7 [(.var 1)])]) (.var 1) (.var 7) [])]) []) (vB zs A B C x5 none none none none none none none) eK = some (EM A B C, eK) := by
 have hl := mw hA hB hC
 have e := fR (Δ := D1 true 6) (n := 191) (vars := vB zs A B C x5 none none none none none none none) (σ := eK) (aq := [none, none, none]) (elt := .tup [(.idx (.var 1) (.lit (.int 1))), (.call 7 [(.var 1)])]) (t := .var 1) (it := .var 7) (encA A B C) (fun a => .tup (jU A B C a)) (fun vs => ∃ x, vs = [none, x, none]) (gS rfl (kP hA hB hC)) rfl (kP hA hB hC) (by
  rintro a ha vs ⟨x, rfl⟩
  exact ⟨[none, some (encA A B C a), none], rfl, ⟨_, rfl⟩, jI (ds := jU A B C a) (aN (FP rfl) (aN (es := []) (fQ (ds := [encA A B C a]) (aN (a := .var 1) (es := []) rfl rfl) rfl (QT (gv hA hB hC a))) rfl)) (by decide : 2 ≤ az)⟩) ⟨none, rfl⟩
 have e2 := Jl (PY (h := true) (k := 6)) (aN (es := []) e rfl) (ds' := [.lst ((outD A B C).map fun a => .tup (jU A B C a))]) rfl (d := .lst ((aY.take (be A B C)).map fun a => .tup (jU A B C a))) (by show (qM _).map D.lst = _; rw [NQ hA hB hC]; rfl)
 refine fR (n := 195) (fun a => .tup (jU A B C a)) (fun a => uO (cA A B C a)) (fun vs => ∃ x y, vs = [none, x, y]) ((aP (k := jj) e2).trans (if_pos (by rw [List.length_map]; exact hl))) rfl hl (by
  rintro a ha vs ⟨x, y, rfl⟩
  exact ⟨[none, some (.int (sz a)), some (uO (cA A B C a))], rfl, ⟨_, _, rfl⟩, rfl⟩) ⟨none, none, rfl⟩
noncomputable def dZ (c : aD) (i : Nat) : Int := match i with
 | 0 => c.r
 | 1 => c.g
 | _ => c.b
noncomputable def N3 (A B C i : Nat) : Nat := match i with
 | 0 => A
 | 1 => B
 | _ => C
noncomputable def hU (c : aD) (i : Nat) : Int := way c.place c.wide i
theorem rX {i : Nat} {s : Int} : dZ (jE A B C s) i = bO (N3 A B C i) s := by
 match i with
 | 0 => rfl
 | 1 => rfl
 | _ + 2 => rfl
theorem AB (c : aD) (i : Nat) : o9 (c.top - c.r, c.top - c.g, c.top - c.b) i = c.top - dZ c i := by
 match i with
 | 0 => rfl
 | 1 => rfl
 | _ + 2 => rfl
theorem nZ {α : Type} (f : Nat → α) {i : Nat} (hi : i ∈ [0, 1, 2]) : [f 0, f 1, f 2][(i : Int).toNat]? = some (f i) := by
 rcases List.mem_cons.mp hi with rfl | hi
 ·rfl
 ·rcases List.mem_cons.mp hi with rfl | hi
  ·rfl
  ·rw [List.mem_singleton.mp hi]; rfl
theorem tB {i : Nat} (hi : i ∈ [0, 1, 2]) : small (i : Int) = true ∧ i < 3 := by revert i; decide
theorem QV {c : aD} (h : bq c) {i j : Nat} (hi : i ∈ [0, 1, 2]) (hj : j ∈ [0, 1, 2]) : decide (hU c j < hU c i) = decide (dZ c i < dZ c j) ∧ (hU c j == hU c i) = (dZ c i == dZ c j) := by
 by_cases h0 : c.wide > 0
 ·have q := List.all_eq_true.mp (List.all_eq_true.mp (uy h h0).way i hi) j hj
  rw [AB, AB] at q
  have q := aj q
  refine ⟨(eq_of_beq q.1).trans (decide_eq_decide.mpr (Int.sub_lt_sub_left_iff ..)), (eq_of_beq q.2).trans (Bool.eq_iff_iff.mpr ?_)⟩
  rw [beq_iff_eq, beq_iff_eq]
  lia
 ·have l := kK c
  have u := kZ c
  have n : c.top - c.low ≤ 0 := Int.not_lt.mp h0
  have e : ∀ k, dZ c k = c.low := fun k => by
   match k with
   | 0 => exact Int.le_antisymm (Int.le_trans u.pa (Int.le_of_sub_nonpos n)) l.pa
   | 1 => exact Int.le_antisymm (Int.le_trans u.pb (Int.le_of_sub_nonpos n)) l.pb
   | _ + 2 => exact Int.le_antisymm (Int.le_trans u.pc (Int.le_of_sub_nonpos n)) l.pc
  have z : c.wide = 0 := by
   have : c.low ≤ c.top := Int.le_trans l.pa u.pa
   show c.top - c.low = 0
   lia
  have w : ∀ k, hU c k = 0 := fun k => by unfold hU; rw [z]; rfl
  rw [w, w, e, e, decide_eq_false (Int.lt_irrefl 0), decide_eq_false (Int.lt_irrefl _), beq_self_eq_true, beq_self_eq_true]
  exact ⟨rfl, rfl⟩
end
end Ev
end
section
namespace Ev
open PySem
section
variable {A B C : Nat} {zs : List Int} {x5 : Option D}
noncomputable def Fi : List S := [.asg [(.var 11)] (.comp [none, none, some 9, some 10] (.tup [(.idx (.var 1) (.var 2)), (.idx (.var 1) (.var 3))]) (.var 1) (.var 15) []), .ite (.not (.call 10 [(.idx (.var 2) (.var 9)), (.idx (.var 2) (.var 10)), (.var 11), (.comp [none, none, some 9, some 10] (.tup [(.idx (.var 1) (.var 2)), (.idx (.var 1) (.var 3))]) (.var 1) (.var 8) []), (.bin .Add (.bi .max [(.idx (.var 3) (.var 9)), (.idx (.var 3) (.var 10))]) (.lit (.int 1)))])) [.ret (.lit (.bool false))] []]
noncomputable def Fj (Δ : Dl) : D → af → ae → Option (aI × af × ae) := fun d vars σ => (cz (.tup [9, 10]) d vars).bind fun vars => aJ Δ 196 Fi vars σ
noncomputable abbrev vN (zs : List Int) (A B C : Nat) (x5 x9 aW aV mZ m5 m6 : Option D) : af := vB zs A B C x5 (some (EM A B C)) x9 aW aV mZ m5 m6
theorem GV {n v : Nat} {vars : af} {i j : Nat} (hi : i ∈ [0, 1, 2]) (hj : j ∈ [0, 1, 2]) (hA : A < 864) (hB : B < 864) (hC : C < 864) {f : I5 → Nat → Int} (h : (vars[v]?).join = some (.lst ((aY.take (be A B C)).map fun a => .lst [.int (f a 0), .int (f a 1), .int (f a 2)]))) (h9 : (vars[9]?).join = some (.int i)) (sV : (vars[10]?).join = some (.int j)) :
  ah (D1 true 6) (n + 1 + 1 + 1 + 1 + 1 + 1) (.comp [none, none, some 9, some 10] (.tup [(.idx (.var 1) (.var 2)), (.idx (.var 1) (.var 3))]) (.var 1) (.var v) []) vars eK = some (.lst ((aY.take (be A B C)).map fun a => bM (f a i) (f a j)), eK) := by
 have hl := mw hA hB hC
 have ci : cP vars [none, none, some 9, some 10] = [none, none, some (.int i), some (.int j)] := by
  show [none, none, (vars[9]?).join, (vars[10]?).join] = _
  rw [h9, sV]
 have co : dD vars [none, none, some 9, some 10] = true := by
  show (true && (true && (((vars[9]?).join).isSome && (((vars[10]?).join).isSome && true)))) = true
  rw [h9, sV]; rfl
 refine fR (n := n + 4) (fun a => .lst [.int (f a 0), .int (f a 1), .int (f a 2)]) (fun a => bM (f a i) (f a j)) (fun vs => ∃ x, vs = [none, x, some (.int i), some (.int j)]) (gS h hl) co hl (by
  rintro a ha vs ⟨x, rfl⟩
  exact ⟨[none, some (.lst [.int (f a 0), .int (f a 1), .int (f a 2)]), some (.int i), some (.int j)], rfl, ⟨_, rfl⟩, jI (aN (bY (a := .var 1) (b := .var 2) (x := .lst [.int (f a 0), .int (f a 1), .int (f a 2)]) rfl rfl rfl rfl (Int.natCast_nonneg i) (tB hi).1 (nZ (fun k => D.int (f a k)) hi)) (aN (es := []) (bY (a := .var 1) (b := .var 3) (x := .lst [.int (f a 0), .int (f a 1), .int (f a 2)]) rfl rfl rfl rfl (Int.natCast_nonneg j) (tB hj).1 (nZ (fun k => D.int (f a k)) hj)) rfl)) (by decide : 2 ≤ az)⟩) (by rw [ci]; exact ⟨none, rfl⟩)
theorem Ew {i : Nat} : aU (N3 A B C i) < be A B C := by
 refine Nat.lt_succ_of_le ?_
 match i with
 | 0 => exact Nat.le_trans (Nat.le_max_left ..) (Nat.le_max_left ..)
 | 1 => exact Nat.le_trans (Nat.le_max_right ..) (Nat.le_max_left ..)
 | _ + 2 => exact Nat.le_max_right ..
theorem EI (hA : A < 864) (hB : B < 864) (hC : C < 864) {i : Nat} : N3 A B C i < 864 := by
 match i with
 | 0 => exact hA
 | 1 => exact hB
 | _ + 2 => exact hC
theorem OH (hA : A < 864) (hB : B < 864) (hC : C < 864) {i j : Nat} (hi : i ∈ [0, 1, 2]) (hj : j ∈ [0, 1, 2]) {x9 aW aV : Option D} : ∃ G3, Fj (D1 true 6) (bM i j) (vN zs A B C x5 x9 aW aV none none none) eK = some (.next, vN zs A B C x5 (some (.int i)) (some (.int j)) G3 none none none, eK) := by
 have hm := fV hA hB hC
 have h5 : be A B C ≤ 5 := by
  have q : ∀ m ∈ [1, 2, 3, 4, 5], m ≤ 5 := by decide
  exact q _ hm
 have e1 := GV (n := 188) (v := 15) (vars := vN zs A B C x5 (some (.int i)) (some (.int j)) aV none none none) hi hj hA hB hC (f := fun a k => dZ (cA A B C a) k) rfl rfl rfl
 refine ⟨some (.lst ((aY.take (be A B C)).map fun a => bM (dZ (cA A B C a) i) (dZ (cA A B C a) j))), (bu (bR e1 rfl)).trans (cV (n := 193) (gM (uL (t := true) (GO ?_)) rfl))⟩
 have e2 := GV (n := 180) (v := 8) (vars := vN zs A B C x5 (some (.int i)) (some (.int j)) (some (.lst ((aY.take (be A B C)).map fun a => bM (dZ (cA A B C a) i) (dZ (cA A B C a) j)))) none none none) hi hj hA hB hC (f := fun a k => hU (cA A B C a) k) rfl rfl rfl
 have si := (tB hi).1
 have sj := (tB hj).1
 have mx : c9 .max [.int (aU (N3 A B C i) : Nat), .int (aU (N3 A B C j) : Nat)] = some (.int ((max (aU (N3 A B C i)) (aU (N3 A B C j)) : Nat) : Int)) := yI
 have P := Ot (h := true) (k := 3) (u := fun s => hU (jE A B C s) i) (w := fun s => hU (jE A B C s) j) (EI hA hB hC (i := i)) (EI hA hB hC (i := j)) (Ew (A := A) (B := B) (C := C) (i := i)) (Ew (A := A) (B := B) (C := C) (i := j)) h5 (fun s s1 s2 => ?_) (fun s s1 s2 => ?_)
 ·rw [Dd hm, List.map_map, List.map_map] at P
  have P2 : (D1 true 6).fns 10 [W1 (N3 A B C i), W1 (N3 A B C j), .lst ((aY.take (be A B C)).map fun a => bM (dZ (cA A B C a) i) (dZ (cA A B C a) j)), .lst ((aY.take (be A B C)).map fun a => bM (hU (cA A B C a) i) (hU (cA A B C a) j)), .int ((max (aU (N3 A B C i)) (aU (N3 A B C j)) + 1 : Nat) : Int)] = some (.bool true) := by
   rw [show (fun a => bM (dZ (cA A B C a) i) (dZ (cA A B C a) j)) = (fun s => bM (bO (N3 A B C i) s) (bO (N3 A B C j) s)) ∘ sz from funext fun a => by show bM (dZ (jE A B C (sz a)) i) (dZ (jE A B C (sz a)) j) = _; rw [rX, rX]; rfl]
   exact P
  refine fQ (aN (bY (a := .var 2) (b := .var 9) (x := jT A B C) rfl rfl rfl rfl (Int.natCast_nonneg i) si (nZ (fun k => W1 (N3 A B C k)) hi)) (aN (bY (a := .var 2) (b := .var 10) (x := jT A B C) rfl rfl rfl rfl (Int.natCast_nonneg j) sj (nZ (fun k => W1 (N3 A B C k)) hj)) (aN (a := .var 11) rfl (aN e2 (aN (es := []) (aR (dK (ds := [.int (aU (N3 A B C i) : Nat), .int (aU (N3 A B C j) : Nat)]) (aN (bY (a := .var 3) (b := .var 9) (x := k9 A B C) rfl rfl rfl rfl (Int.natCast_nonneg i) si (nZ (fun k => D.int (aU (N3 A B C k) : Nat)) hi)) (aN (es := []) (bY (a := .var 3) (b := .var 10) (x := k9 A B C) rfl rfl rfl rfl (Int.natCast_nonneg j) sj (nZ (fun k => D.int (aU (N3 A B C k) : Nat)) hj)) rfl)) rfl mx rfl rfl) (b := .lit (.int 1)) rfl rfl) rfl))))) ?_ P2
  show (D.bF _ && (D.bF _ && (D.aL ((aY.take (be A B C)).map fun a => bM (dZ (cA A B C a) i) (dZ (cA A B C a) j)) && (D.aL ((aY.take (be A B C)).map fun a => bM (hU (cA A B C a) i) (hU (cA A B C a) j)) && (true && true))))) = true
  rw [jy, jy, gC _ (fun ξ => rfl), gC _ (fun ξ => rfl)]; rfl
 all_goals
  obtain ⟨n, rfl⟩ := mJ (Int.le_trans (by decide) s1)
  have hn : n ∈ eo := by
   have q : ∀ n : Nat, n < 6 → 1 ≤ n → n ∈ eo := by decide
   exact q n (by lia) (by lia)
  have t := QV (xB hA hB hC hn) hi hj
  rw [rX, rX] at t
 ·exact t.1
 ·exact t.2
theorem Ow (hA : A < 864) (hB : B < 864) (hC : C < 864) : ∃ x9 aW aV, bK (D1 true 6) 197 (.for (.tup [9, 10]) (.lst [(.tup [(.lit (.int 0)), (.lit (.int 1))]), (.tup [(.lit (.int 1)), (.lit (.int 0))]), (.tup [(.lit (.int 0)), (.lit (.int 2))]), (.tup [(.lit (.int 2)), (.lit (.int 0))]), (.tup [(.lit (.int 1)), (.lit (.int 2))]), (.tup [(.lit (.int 2)), (.lit (.int 1))])]) Fi) (vN zs A B C x5 none none none none none none) eK = some (.next, vN zs A B C x5 x9 aW aV none none none, eK) := by
 obtain ⟨bj, e, x9, aW, aV, rfl⟩ := Cj (f := Fj (D1 true 6)) (σ := eK) (fun p : Nat × Nat => bM p.1 p.2) (fun vs => ∃ x9 aW aV, vs = vN zs A B C x5 x9 aW aV none none none) (l := [(0, 1), (1, 0), (0, 2), (2, 0), (1, 2), (2, 1)]) (vs := vN zs A B C x5 none none none none none none) (by
  rintro p hp vs ⟨x9, aW, aV, rfl⟩
  have q : ∀ p ∈ [((0 : Nat), (1 : Nat)), (1, 0), (0, 2), (2, 0), (1, 2), (2, 1)], p.1 ∈ [0, 1, 2] ∧ p.2 ∈ [0, 1, 2] := by decide
  obtain ⟨G3, e⟩ := OH (zs := zs) (x5 := x5) (x9 := x9) (aW := aW) (aV := aV) hA hB hC (q p hp).1 (q p hp).2
  exact ⟨_, e, _, _, _, rfl⟩) ⟨_, _, _, rfl⟩
 exact ⟨x9, aW, aV, (gK (ds := [bM 0 1, bM 1 0, bM 0 2, bM 2 0, bM 1 2, bM 2 1]) (σ1 := eK) rfl).trans e⟩
end
end Ev
end
section
namespace Ev
open PySem
theorem Qt : ∀ hs : List UInt64, hs.length ≤ 5 → mR (.lst (hs.map .flt)) (some 1) none none = some (.lst (hs.tail.map .flt)) ∧ mR (.lst (hs.map .flt)) none (some 1) none = some (.lst ((hs.take 1).map .flt)) := @fun aa => @(match aa with
 | [] => @fun ξ => ⟨by kernel_rfl, by kernel_rfl⟩
 | [υ1] => @fun ξ => ⟨by kernel_rfl, by kernel_rfl⟩
 | [υ1, υ2] => @fun ξ => ⟨by kernel_rfl, by kernel_rfl⟩
 | [υ1, υ2, υ3] => @fun ξ => ⟨by kernel_rfl, by kernel_rfl⟩
 | [υ1, υ2, υ3, υ4] => @fun ξ => ⟨by kernel_rfl, by kernel_rfl⟩
 | [υ1, υ2, υ3, υ4, υ5] => @fun ξ => ⟨by kernel_rfl, by kernel_rfl⟩
 | υ1 :: υ2 :: υ3 :: υ4 :: υ5 :: υ6 :: r => @fun h => absurd h (by show ¬ r.length + 6 ≤ 5; lia))
noncomputable def uh (p : UInt64 × UInt64) : D := .tup [.flt p.1, .flt p.2]
theorem G7 (e : UInt64) : ∀ (l : List UInt64) (x : UInt64), fY ((x :: l).map .flt) ((l ++ [e]).map .flt) = (lT e x l).map uh := @fun aa => @(match aa with
 | [] => @fun x => rfl
 | y :: l => @fun x => congrArg (uh (x, y) :: ·) (G7 e l y))
theorem Q6 (hs : List UInt64) : fY (hs.map .flt) ((hs.tail ++ (hs.take 1).map fun h => Float64.add h f1).map .flt) = (nP hs).map uh := by
 cases hs with
 | nil => rfl
 | cons x l => exact G7 _ l x
theorem wu (e : UInt64) : ∀ (l : List UInt64) (x : UInt64), (lT e x l).length = l.length + 1 := @fun aa => @(match aa with
 | [] => @fun x => rfl
 | y :: l => @fun x => congrArg (· + 1) (wu e l y))
theorem JT (hs : List UInt64) : (nP hs).length = hs.length := by
 cases hs with
 | nil => rfl
 | cons x l => exact wu _ l x
section
variable {A B C : Nat} {zs : List Int} {x5 : Option D}
theorem Jp {Δ : Dl} {n : Nat} {a b : E} {vars : af} {σ : ae} {xs ys : List D} (h1 : ah Δ n a vars σ = some (.lst xs, σ)) (h2 : ah Δ n b vars σ = some (.loc σ.length, σ ++ [some (.lst ys)])) (hx : xs.length ≤ az) (hy : ys.length ≤ az) : ef Δ (n + 1) (.zip a b) vars σ = some (fY xs ys, σ ++ [none]) :=
 (aP (k := fun x σ => (Ev.cS σ x).bind fun p => seq1 (ah Δ n b vars) (uS p.1) p.2) h1).trans ((aP (k := uS (.lst xs)) h2).trans (by
  have e : (σ ++ [some (cN.lst ys)])[σ.length]? = some (some (.lst ys)) := List.getElem?_concat_length ..
  have s : (σ ++ [some (cN.lst ys)]).set σ.length none = σ ++ [none] := by rw [List.set_append_right _ _ (Nat.le_refl _), Nat.sub_self]; rfl
  show (match (σ ++ [some (cN.lst ys)])[σ.length]? with | some (some m) => some (m.toD, (σ ++ [some (cN.lst ys)]).set σ.length none) | _ => none).bind _ = _
  rw [e, s]
  exact if_pos ⟨hx, hy⟩))
noncomputable abbrev jG : ae := [some (.lst []), some (.lst []), some (.lst []), none]
theorem JX {vars : af} {hs : List UInt64} (h : (vars[12]?).join = some (.lst (hs.map .flt))) (hl : hs.length ≤ 5) : ah (D1 true 6) 194 (.comp [none, none, none] (.bin .Sub (.var 2) (.var 1)) (.tup [1, 2]) (.zip (.var 12) (.bin .Add (.eT (.var 12) (some (.lit (.int 1))) none none) (.comp [none, none] (.bin .Add (.var 1) (.lit (.flt 4607182418800017408))) (.var 1) (.eT (.var 12) none (some (.lit (.int 1))) none) []))) []) vars eK = some (.lst ((nP hs).map fun p => .flt (iL p)), jG) := by
 have t := Qt hs hl
 have mx : ∀ n, n ≤ 6 → n ≤ az := fun n q => Nat.le_trans q (by decide)
 have l1 : (hs.take 1).length ≤ 1 := by rw [List.length_take]; exact Nat.min_le_left ..
 have l2 : hs.tail.length ≤ 5 := by rw [List.length_tail]; exact Nat.le_trans (Nat.sub_le ..) hl
 have e1 : ah (D1 true 6) 190 (.comp [none, none] (.bin .Add (.var 1) (.lit (.flt 4607182418800017408))) (.var 1) (.eT (.var 12) none (some (.lit (.int 1))) none) []) vars eK = some (.lst ((hs.take 1).map fun h => .flt (Float64.add h f1)), eK) :=
  fR (n := 188) (l := hs.take 1) D.flt (fun h => .flt (Float64.add h f1)) (fun vs => ∃ x, vs = [none, x]) ((aP (k := jj) (v7 (n := 187) (lo := none) (hi := some (.lit (.int 1))) (st := none) (mV h) rfl rfl rfl rfl t.2)).trans (if_pos (by rw [List.length_map]; exact mx _ (Nat.le_trans l1 (by decide))))) rfl (mx _ (Nat.le_trans l1 (by decide))) (by
   rintro q hq vs ⟨x, rfl⟩
   exact ⟨[none, some (.flt q)], rfl, ⟨_, rfl⟩, cR (a := .var 1) gP rfl (gf gP) rfl rfl rfl rfl⟩) ⟨none, rfl⟩
 have e2 := BN (Δ := D1 true 6) (n := 190) (v7 (lo := some (.lit (.int 1))) (hi := none) (st := none) (mV h) rfl rfl rfl rfl t.1) e1 rfl rfl (by rw [List.length_map, List.length_map]; exact mx _ (Nat.add_le_add l2 l1))
 rw [show hs.tail.map D.flt ++ (hs.take 1).map (fun h => D.flt (Float64.add h f1)) = (hs.tail ++ (hs.take 1).map fun h => Float64.add h f1).map .flt by rw [List.map_append, List.map_map]; rfl] at e2
 have e3 := Jp (mV (n := 190) (σ := eK) h) e2 (by rw [List.length_map]; exact mx _ (Nat.le_succ_of_le hl)) (by rw [List.length_map, List.length_append, List.length_map]; exact mx _ (Nat.add_le_add l2 l1))
 rw [Q6] at e3
 exact fR (n := 192) uh (fun p => .flt (iL p)) (fun vs => ∃ x y, vs = [none, x, y]) e3 rfl (by rw [JT]; exact mx _ (Nat.le_succ_of_le hl)) (by
  rintro p hp vs ⟨x, y, rfl⟩
  exact ⟨[none, some (.flt p.1), some (.flt p.2)], rfl, ⟨_, _, rfl⟩, cR (a := .var 2) (b := .var 1) gP rfl rfl rfl rfl rfl rfl⟩) ⟨none, none, rfl⟩
noncomputable def fz (A B C : Nat) : List UInt64 := ((outD A B C).filter fun a => decide ((cA A B C a).wide > 0)).map fun a => (cA A B C a).bC
theorem PL {c : aD} (h : bq c) : ik c.share 0 = decide (c.wide > 0) := by
 by_cases h0 : c.wide > 0
 ·rw [(lK h h0).share, (lK h h0).F.gt]
 ·rw [show c.share = 0 from if_neg h0, decide_eq_false h0]; decide +kernel
theorem Lx (hA : A < 864) (hB : B < 864) (hC : C < 864) {vars : af} (h : (vars[7]?).join = some (uw A B C)) : ah (D1 true 6) 195 (.comp [none, none] (.idx (.var 1) (.lit (.int 0))) (.var 1) (.var 7) [(.cmp .Gt (.idx (.var 1) (.lit (.int 2))) (.lit (.flt 0)))]) vars eK = some (.lst ((fz A B C).map .flt), eK) := by
 have e := vY (Δ := D1 true 6) (n := 192) (vars := vars) (σ := eK) (aq := [none, none]) (elt := .idx (.var 1) (.lit (.int 0))) (t := .var 1) (it := .var 7) (c := .cmp .Gt (.idx (.var 1) (.lit (.int 2))) (.lit (.flt 0))) (encA A B C) (fun a => .flt (cA A B C a).bC) (fun a => decide ((cA A B C a).wide > 0)) (fun vs => ∃ x, vs = [none, x]) (gS h (kP hA hB hC)) rfl (kP hA hB hC) (by
  rintro a ha vs ⟨x, rfl⟩
  refine ⟨[none, some (encA A B C a)], rfl, ⟨_, rfl⟩, ?_, fun ξ => bY (a := .var 1) (b := .lit (.int 0)) (x := encA A B C a) (y := encA A B C a) (k := 0) rfl rfl rfl rfl (Int.le_refl 0) rfl rfl⟩
  exact bU (x := .flt (cA A B C a).share) (y := .flt 0) (bY (a := .var 1) (b := .lit (.int 2)) (x := encA A B C a) (y := encA A B C a) (k := 2) rfl rfl rfl rfl (by decide) rfl rfl) (gf gP) rfl rfl (congrArg some (PL (gv hA hB hC a)))) ⟨none, rfl⟩
 rw [e]
 unfold fz
 rw [List.map_map]; rfl
end
end Ev
end
section
namespace Ev
open PySem
section
variable {A B C : Nat} {zs : List Int}
noncomputable def gY (A B C : Nat) : List (Int × Int) := (aY.take (be A B C)).map fun a => stp (cA A B C a)
theorem GZ {A B C : Nat} : ∀ {l : List I5} {a : I5}, mU (dO A B C) (a :: l) = true → Up (cA A B C a).pos ((l.map fun a => cA A B C a).map aD.pos) := @fun aa => @(match aa with
 | [] => @fun ξ ξ => trivial
 | b :: l => @fun a h => by
  have q := aj (show (dO A B C a b && mU (dO A B C) (b :: l)) = true from h)
  exact ⟨by have r := of_decide_eq_true q.1; show (cA A B C a).pos ≤ (cA A B C b).pos; lia, GZ q.2⟩)
theorem Jt (hA : A < 864) (hB : B < 864) (hC : C < 864) (hw : ∀ a ∈ aY.take (be A B C), (cA A B C a).wide > 0) {M : Int → Prop} (hM : ∀ z, M z ↔ ∃ a ∈ aY.take (be A B C), (cA A B C a).pos = z) : gh (gY A B C) = true ↔ uX M := by
 have dir : ∀ a ∈ aY.take (be A B C), Dir (stp (cA A B C a)) (cA A B C a).pos := fun a ha => IZ (gv hA hB hC a) (hw a ha)
 have mem : ∀ s, s ∈ gY A B C ↔ ∃ a ∈ aY.take (be A B C), stp (cA A B C a) = s := fun s => List.mem_map
 rw [BQ]
 constructor
 ·rintro (⟨s, hs, t, ht, o⟩ | ⟨s, hs, t, ht, u, hu, c1, c2, c3⟩)
  ·obtain ⟨a, ha, rfl⟩ := (mem s).mp hs
   obtain ⟨b, hb, rfl⟩ := (mem t).mp ht
   exact .inl ⟨_, _, (hM _).mpr ⟨a, ha, rfl⟩, (hM _).mpr ⟨b, hb, rfl⟩, (ki (dir a ha) (dir b hb)).2.mp o⟩
  ·obtain ⟨a, ha, rfl⟩ := (mem s).mp hs
   obtain ⟨b, hb, rfl⟩ := (mem t).mp ht
   obtain ⟨c, hc, rfl⟩ := (mem u).mp hu
   exact .inr ⟨_, _, _, (hM _).mpr ⟨a, ha, rfl⟩, (hM _).mpr ⟨b, hb, rfl⟩, (hM _).mpr ⟨c, hc, rfl⟩, (ki (dir a ha) (dir b hb)).1.mp c1, (ki (dir b hb) (dir c hc)).1.mp c2, (ki (dir c hc) (dir a ha)).1.mp c3⟩
 ·rintro (⟨p, q, hp, hq, o⟩ | ⟨p, q, r, hp, hq, hr, c1, c2, c3⟩)
  ·obtain ⟨a, ha, rfl⟩ := (hM p).mp hp
   obtain ⟨b, hb, rfl⟩ := (hM q).mp hq
   exact .inl ⟨_, (mem _).mpr ⟨a, ha, rfl⟩, _, (mem _).mpr ⟨b, hb, rfl⟩, (ki (dir a ha) (dir b hb)).2.mpr o⟩
  ·obtain ⟨a, ha, rfl⟩ := (hM p).mp hp
   obtain ⟨b, hb, rfl⟩ := (hM q).mp hq
   obtain ⟨c, hc, rfl⟩ := (hM r).mp hr
   exact .inr ⟨_, (mem _).mpr ⟨a, ha, rfl⟩, _, (mem _).mpr ⟨b, hb, rfl⟩, _, (mem _).mpr ⟨c, hc, rfl⟩, (ki (dir a ha) (dir b hb)).1.mpr c1, (ki (dir b hb) (dir c hc)).1.mpr c2, (ki (dir c hc) (dir a ha)).1.mpr c3⟩
theorem IY {p : Prop} [Decidable p] {b : Bool} (h : p ↔ b = true) : decide p = b := Bool.eq_iff_iff.mpr (decide_eq_true_iff.trans h)
theorem JY (hA : A < 864) (hB : B < 864) (hC : C < 864) (hw : ∀ a ∈ aY.take (be A B C), (cA A B C a).wide > 0) : ∃ g, c9 .max [.lst ((nP (fz A B C)).map fun p => .flt (iL p))] = some (.flt g) ∧ b8 .LtE (.flt g) (.flt cH) = some (gh (gY A B C)) := by
 have hm := fV hA hB hC
 have O := kQ (kO (A := A) (B := B) (C := C)) hm
 have hf : (outD A B C).filter (fun a => decide ((cA A B C a).wide > 0)) = outD A B C := List.filter_eq_self.mpr fun a ha => decide_eq_true (hw a ((O.mem a).mp ha))
 have hh : fz A B C = ((outD A B C).map fun a => cA A B C a).map aD.bC := by unfold fz; rw [hf, List.map_map]; rfl
 have mem : ∀ b, b ∈ outD A B C ↔ b ∈ aY.take (be A B C) := O.mem
 have up : mU (dO A B C) (outD A B C) = true := O.up
 have hn : outD A B C ≠ [] := fun q => by
  have e : (outD A B C).length = be A B C := O.len
  rw [q] at e
  have r : ∀ m ∈ [1, 2, 3, 4, 5], 0 ≠ m := by decide
  exact r _ hm e
 rw [hh]
 match hq : outD A B C with
 | [] => exact absurd hq hn
 | a :: l =>
  have mem : ∀ b, b ∈ a :: l ↔ b ∈ aY.take (be A B C) := by rw [← hq]; exact mem
  have up : mU (dO A B C) (a :: l) = true := by rw [← hq]; exact up
  have U := GZ up
  have L3 : ∀ y ∈ l.map (fun a => cA A B C a), bq y := fun y hy => by
   obtain ⟨b, _, rfl⟩ := List.mem_map.mp hy
   exact gv hA hB hC b
  have R := Cu (gv hA hB hC a) (gv hA hB hC a) L3 U (Int.le_refl _)
  have hM : ∀ z, z ∈ (cA A B C a).pos :: (l.map fun a => cA A B C a).map aD.pos ↔ ∃ b ∈ aY.take (be A B C), (cA A B C b).pos = z := fun z => by
   rw [show (cA A B C a).pos :: (l.map fun a => cA A B C a).map aD.pos = (a :: l).map fun b => (cA A B C b).pos from congrArg (_ :: ·) (List.map_map ..), List.mem_map]
   exact exists_congr fun b => and_congr_left fun ξ => mem b
  have E := O8 U (fun z hz => by
   obtain ⟨b, _, rfl⟩ := (hM z).mp hz
   exact kR (gv hA hB hC b))
  have V := Jt hA hB hC hw hM
  generalize gL : lT (Float64.add (cA A B C a).bC f1) (cA A B C a).bC ((l.map fun a => cA A B C a).map aD.bC) = G at R
  have eG : nP (((a :: l).map fun a => cA A B C a).map aD.bC) = G := gL
  rw [eG]
  have hG := wu (Float64.add (cA A B C a).bC f1) ((l.map fun a => cA A B C a).map aD.bC) (cA A B C a).bC
  rw [gL] at hG
  match G, R, hG with
  | [], _, hG => exact Nat.noConfusion hG
  | g0 :: gs, R, _ =>
   obtain ⟨g, e1, e2, e3⟩ := yH (C := Float64.val cH) (gs := gs.map iL) (b := iL g0) (R.1 g0 List.mem_cons_self) (fun x hx => by
    obtain ⟨y, hy, rfl⟩ := List.mem_map.mp hx
    exact R.1 y (List.mem_cons_of_mem _ hy))
   refine ⟨g, ?_, ?_⟩
   ·rw [List.map_map] at e1
    show bestOf .Gt (.flt (iL g0) :: gs.map fun p => .flt (iL p)) = _
    unfold bestOf
    exact (if_pos (List.all_eq_true.mpr fun d hd => by
     obtain ⟨p, _, rfl⟩ := List.mem_map.mp (show d ∈ (g0 :: gs).map fun p => D.flt (iL p) from hd)
     rfl)).trans e1
   ·rw [M2 e2 Ih]
    refine congrArg some ?_
    refine IY (e3.trans (Iff.trans ?_ (R.2.trans (E.trans V.symm))))
    exact ⟨fun h x hx => (List.mem_cons.mp hx).elim (fun q => q ▸ h.1) fun q => h.2 _ (List.mem_map_of_mem q), fun h => ⟨h g0 List.mem_cons_self, fun x hx => by
     obtain ⟨y, hy, rfl⟩ := List.mem_map.mp hx
     exact h y (List.mem_cons_of_mem _ hy)⟩⟩
theorem CA (hA : A < 864) (hB : B < 864) (hC : C < 864) {a : I5} (ha : a ∈ aY.take (be A B C)) (h0 : ¬ (cA A B C a).wide > 0) : gh (gY A B C) = true ∧ (fz A B C).length < (outD A B C).length := by
 have l := kK (cA A B C a)
 have u := kZ (cA A B C a)
 have n : (cA A B C a).top - (cA A B C a).low ≤ 0 := Int.not_lt.mp h0
 have e : stp (cA A B C a) = (0, 0) := by
  have b1 := Int.le_of_sub_nonpos n
  have r := Int.le_antisymm (Int.le_trans u.pa b1) l.pa
  have g := Int.le_antisymm (Int.le_trans u.pb b1) l.pb
  have b := Int.le_antisymm (Int.le_trans u.pc b1) l.pc
  unfold stp
  rw [r, g, b, Int.sub_self]
 have hs : (0, 0) ∈ gY A B C := e ▸ List.mem_map_of_mem ha
 refine ⟨BQ.mpr (.inl ⟨_, hs, _, hs, rfl⟩), ?_⟩
 have O := kQ (kO (A := A) (B := B) (C := C)) (fV hA hB hC)
 unfold fz
 rw [List.length_map]
 refine Nat.lt_of_le_of_ne (List.length_filter_le ..) fun q => ?_
 have f := List.length_filter_eq_length_iff.mp q a ((O.mem a).mpr ha)
 exact h0 (of_decide_eq_true f)
end
end Ev
end
section
namespace Ev
open PySem
section
variable {A B C : Nat} {zs : List Int} {x5 : Option D}
theorem Ji {Δ : Dl} {n : Nat} {a b : E} {vars : af} {σ : ae} {t u : Bool} (h1 : ah Δ n a vars σ = some (.bool t, σ)) (h2 : t = false → ah Δ n b vars σ = some (.bool u, σ)) (e : t = true → u = true) : ah Δ (n + 1) (.either a b) vars σ = some (.bool u, σ) :=
 (aP (k := fun x σ => (g8 x σ).bind fun t => if t then some (x, σ) else ah Δ n b vars σ) h1).trans (by
  cases t with
  | true => rw [e rfl]; rfl
  | false => exact h2 rfl)
theorem Ie : dH .Div (.int 1) (.int 1048576) = some (.flt (Float64.ofFrac (decide ((1 : Int) < 0) != decide ((1048576 : Int) < 0)) (1 : Int).natAbs (1048576 : Int).natAbs)) := if_neg (by decide +kernel)
theorem yE (hA : A < 864) (hB : B < 864) (hC : C < 864) : (fz A B C).length ≤ (outD A B C).length ∧ (outD A B C).length ≤ 5 := by
 have O := kQ (kO (A := A) (B := B) (C := C)) (fV hA hB hC)
 have q : ∀ m ∈ [1, 2, 3, 4, 5], m ≤ 5 := by decide
 refine ⟨?_, by show (ez _ _).length ≤ 5; rw [O.len]; exact q _ (fV hA hB hC)⟩
 unfold fz
 rw [List.length_map]
 exact List.length_filter_le ..
noncomputable abbrev sU (A B C : Nat) : D := .lst ((nP (fz A B C)).map fun p => .flt (iL p))
theorem QB (hA : A < 864) (hB : B < 864) (hC : C < 864) {vars : af} (h7 : (vars[7]?).join = some (uw A B C)) (wA : (vars[12]?).join = some (.lst ((fz A B C).map .flt))) (wB : (vars[13]?).join = some (sU A B C)) :
  ah (D1 true 6) 193 (.either (.cmp .Lt (.bi .len [(.var 12)]) (.bi .len [(.var 7)])) (.cmp .LtE (.bi .max [(.var 13)]) (.bin .Add (.lit (.flt 4602678819172646912)) (.bin .Div (.lit (.int 1)) (.lit (.int 1048576)))))) vars jG = some (.bool (gh (gY A B C)), jG) := by
 have l := yE hA hB hC
 have mx : ∀ n, n ≤ 5 → n ≤ az := fun n q => Nat.le_trans q (by decide)
 refine Ji (t := decide (((fz A B C).length : Int) < ((outD A B C).length : Nat))) (ig (vZ (enc := D.flt) (mV wA) (mx _ (Nat.le_trans l.1 l.2))) (vZ (enc := encA A B C) (mV h7) (mx _ l.2)) rfl rfl rfl) (fun q => ?_) fun q => ?_
 ·have q := of_decide_eq_false q
  have hw : ∀ a ∈ aY.take (be A B C), (cA A B C a).wide > 0 := fun a ha => Classical.byContradiction fun h0 => q (Int.ofNat_lt.mpr (CA hA hB hC ha h0).2)
  obtain ⟨g, e1, e2⟩ := JY hA hB hC hw
  exact ig (x := .flt g) (y := .flt cH) (dK (ds := [sU A B C]) (aN (es := []) (mV wB) rfl) rfl e1 rfl rfl) (cR gP (gf gP) (cR (a := .lit (.int 1)) (b := .lit (.int 1048576)) gP rfl rfl rfl rfl rfl Ie) rfl rfl rfl rfl) rfl rfl e2
 ·have q := Int.ofNat_lt.mp (of_decide_eq_true q)
  refine Classical.byContradiction fun n => ?_
  have hw : ∀ a ∈ aY.take (be A B C), (cA A B C a).wide > 0 := fun a ha => Classical.byContradiction fun h0 => n (CA hA hB hC ha h0).1
  have hf : (outD A B C).filter (fun a => decide ((cA A B C a).wide > 0)) = outD A B C := List.filter_eq_self.mpr fun a ha => decide_eq_true (hw a (EA hA hB hC ha))
  unfold fz at q
  rw [List.length_map, hf] at q
  exact Nat.lt_irrefl _ q
theorem NN {c : aD} (h : bq c) : rB (stp c) := by
 have a := jC h.r
 have b := jC h.g
 have d := jC h.b
 exact ⟨qL (by show -1000000 ≤ c.r - c.b ∧ c.r - c.b ≤ 1000000; lia), qL (by show -1000000 ≤ c.g - c.b ∧ c.g - c.b ≤ 1000000; lia)⟩
theorem P4 (hA : A < 864) (hB : B < 864) (hC : C < 864) {vars : af} (nR : (vars[15]?).join = some (fH A B C)) : ah (D1 true 6) 191 (.call 9 [(.comp [none, none] (.tup [(.bin .Sub (.idx (.var 1) (.lit (.int 0))) (.idx (.var 1) (.lit (.int 2)))), (.bin .Sub (.idx (.var 1) (.lit (.int 1))) (.idx (.var 1) (.lit (.int 2))))]) (.var 1) (.var 15) [])]) vars jG = some (.bool (gh (gY A B C)), jG) := by
 have hl := mw hA hB hC
 have e := fR (Δ := D1 true 6) (n := 187) (vars := vars) (σ := jG) (aq := [none, none]) (elt := .tup [(.bin .Sub (.idx (.var 1) (.lit (.int 0))) (.idx (.var 1) (.lit (.int 2)))), (.bin .Sub (.idx (.var 1) (.lit (.int 1))) (.idx (.var 1) (.lit (.int 2))))]) (t := .var 1) (it := .var 15) (fun a => (cA A B C a).d) (fun a => tp (stp (cA A B C a))) (fun vs => ∃ x, vs = [none, x]) (gS nR hl) rfl hl (by
  rintro a ha vs ⟨x, rfl⟩
  have ix : ∀ (n : Nat) (k v : Int), 0 ≤ k → small k = true → [D.int (cA A B C a).r, .int (cA A B C a).g, .int (cA A B C a).b][k.toNat]? = some (.int v) → ah (D1 true 6) (n + 1 + 1) (.idx (.var 1) (.lit (.int k))) [none, some (cA A B C a).d] jG = some (.int v, jG) := fun n k v k0 ks hv => bY (a := .var 1) (b := .lit (.int k)) (x := (cA A B C a).d) (y := (cA A B C a).d) rfl rfl rfl rfl k0 ks hv
  exact ⟨[none, some (cA A B C a).d], rfl, ⟨_, rfl⟩, jI (aN (aR (ix _ 0 _ (by decide) rfl rfl) (ix _ 2 _ (by decide) rfl rfl) rfl) (aN (es := []) (aR (ix _ 1 _ (by decide) rfl rfl) (ix _ 2 _ (by decide) rfl rfl) rfl) rfl)) (by decide : 2 ≤ az)⟩) ⟨none, rfl⟩
 rw [show (aY.take (be A B C)).map (fun a => tp (stp (cA A B C a))) = (gY A B C).map tp by unfold gY; rw [List.map_map]; rfl] at e
 refine fQ (aN (es := []) e rfl) (GN _) (Jq (k := 4) (fun s hs => ?_) ?_)
 ·obtain ⟨a, _, rfl⟩ := List.mem_map.mp hs
  exact NN (gv hA hB hC a)
 ·unfold gY
  rw [List.length_map, List.length_take]
  exact Nat.le_trans (Nat.min_le_right _ 5) (by decide)
theorem OY (hA : A < 864) (hB : B < 864) (hC : C < 864) : ∃ v, aJ (D1 true 6) 200 FI (vB zs A B C x5 none none none none none none none) pG = some (.ret (.bool true), v, jG) := by
 obtain ⟨x9, aW, aV, ep⟩ := Ow (zs := zs) (x5 := x5) hA hB hC
 have e0 : bK (D1 true 6) 199 (.ite (.cmp .NotEq (.comp [none, none, none, some 15] (.var 1) (.var 1) (.var 7) [(.not (.call 6 [(.var 1), (.idx (.var 3) (.bin .Sub (.idx (.var 1) (.lit (.int 1))) (.lit (.int 1))))]))]) (.lst [])) [.ret (.lit (.bool false))] []) (vB zs A B C x5 none none none none none none none) pG = some (.next, vB zs A B C x5 none none none none none none none, eK) := gM (bU (x' := .lst []) (y' := .lst []) (O7 hA hB hC) rfl rfl rfl rfl) rfl
 have el := Lx hA hB hC (vars := vN zs A B C x5 x9 aW aV none none none) rfl
 have eg := JX (vars := vN zs A B C x5 x9 aW aV (some (.lst ((fz A B C).map .flt))) none none) (hs := fz A B C) rfl (Nat.le_trans (yE hA hB hC).1 (yE hA hB hC).2)
 have et := QB hA hB hC (vars := vN zs A B C x5 x9 aW aV (some (.lst ((fz A B C).map .flt))) (some (sU A B C)) none) rfl rfl rfl
 have es := P4 hA hB hC (vars := vN zs A B C x5 x9 aW aV (some (.lst ((fz A B C).map .flt))) (some (sU A B C)) (some (.bool (gh (gY A B C))))) rfl
 refine ⟨_, (bu e0).trans ((bu (bR (NO hA hB hC) rfl)).trans ((bu ep).trans ((bu (bR el rfl)).trans ((bu (bR eg rfl)).trans ((bu (bR et rfl)).trans (gm (pL (x := .bool true) (ig (a := .var 14) (x := .bool (gh (gY A B C))) (y := .bool (gh (gY A B C))) rfl es rfl rfl (jc (Nat.zero_le 50) (congrArg some (beq_self_eq_true _)))) rfl)))))))⟩
end
theorem plain1 : Ai := fun zs hz => by
 obtain ⟨A, B, C, hA, hB, hC, e0⟩ := OI hz
 obtain ⟨x5, e2⟩ := NF (zs := zs) hA hB hC
 obtain ⟨v, e4⟩ := OY (zs := zs) (x5 := x5) hA hB hC
 refine .mk e0 (PR hA hB hC) e2 (bU (n := 198) (a := .var 6) (b := .lst []) (x' := .lst []) (y' := .lst []) rfl rfl rfl rfl rfl) (PN (n := 196) hA hB hC rfl) rfl (xs := (aY.take (be A B C)).map fun a => .int (sz a)) rfl rfl (rs := (aY.take (be A B C)).map fun a => .tup (mF A B C a)) (fun i x hx => ?_) (MN hA hB hC) (Ba (t := true) (Bj (fun a => D.int (sz a)) (fun ξ => Nat.le_refl 0) (by decide) _) (BL (fun a => D.int (sz a)) (fun a => eq_int _) _)) e4
 rw [List.getElem?_map] at hx
 obtain ⟨a, ha, rfl⟩ := Option.map_eq_some_iff.mp hx
 exact ⟨_, by rw [List.getElem?_map, ha]; rfl, ML hA hB hC (List.mem_of_getElem? ha)⟩
end Ev
end
section
set_option maxRecDepth 100000
set_option autoImplicit false
set_option linter.all false
set_option maxHeartbeats 8000000
namespace Ev
open PySem PySem.W PySem.Calls PyProof.Rows PySem.SeqAt
theorem oA {h : Heap} {P a : Addr} {m : Str → Option Value} (hP : h.get? P = some (tabObj #[])) (n : h.Ns a m) : (hideAll h [P]).Ns a m ∧ a ≠ P := by
 obtain ⟨o, es, ep, h1, h2, h3⟩ := n
 have ha : a ≠ P := fun q => by rw [q, hP] at h1; cases h1; cases h2
 exact ⟨⟨o, es, ep, qb h1 ha, h2, h3⟩, ha⟩
theorem LO {h : Heap} {K : Frag} {P : Addr} (KX : K.In h) (hk : K.lookup P = none) : K.In (hideAll h [P]) := fun a o e => qb (KX a o e) fun q => by rw [q, hk] at e; exact au e
theorem Gv {c : Cx} {s : Shared} {P : Addr} {mg mb : Str → Option Value} {loose : List Str} {p : Program} {qq : ExcName → Option Value} (hB : c.B = hideAll s.heap [P]) (hP : s.heap.get? P = some (tabObj #[])) (hk : c.K.lookup P = none) (KX : c.K.In s.heap) (T : Top p loose qq mg mb s.heap) : o4 c where
 Z := by
  obtain ⟨mc, s9, hl⟩ := T.nolimit
  exact ⟨by rw [hB]; exact LO KX hk, ⟨mg, by rw [hB]; exact (oA hP T.g).1⟩, ⟨mb, by rw [hB]; exact (oA hP T.b).1, T.builtins⟩, ⟨mc, by rw [hB]; exact (oA hP s9).1, hl⟩⟩
 nb := fun h e => by
  obtain ⟨mc, s9, _⟩ := T.nodigits
  subst e
  rw [hB]
  exact ⟨mc, (oA hP s9).1, N4 KX s9 h⟩
theorem MP {c : Cx} {s : Shared} {lc P : Addr} {mg mb : Str → Option Value} {loose : List Str} {p : Program} {qq : ExcName → Option Value} (hB : c.B = hideAll s.heap [P]) (hP : s.heap.get? P = some (tabObj #[])) (T : Top p loose qq mg mb s.heap) (h : CodeHd c.B lc P) : ni c lc P where
 hd := h
 g := by
  obtain ⟨bm, ob, h1, h2, h3, h4, h5, h6⟩ := T.bmain
  have n1 := oA hP T.g
  have hb : bm ≠ P := fun q => by rw [q, hP] at h3; cases h3; cases h4
  obtain ⟨o, es, ep, g1, g2, g3⟩ := T.g
  refine ⟨mg, by rw [hB]; exact n1.1, bm, ob, h1, h2, fun q => ?_, hb, by rw [hB]; exact qb h3 hb, h4, h5, h6⟩
  rw [q, g1] at h3; cases h3; rw [g2] at h6; cases h6
 ne := (oA hP T.g).2
theorem N9 {c : Cx} {s s' : Shared} {lc P : Addr} {more : Array Value} (hB : c.B = hideAll s.heap [P]) (hP : s.heap.get? P = some (tabObj #[])) (hd : CodeHd c.B lc P) (k : ∀ b o, b ≠ P → s.heap.get? b = some o → s'.heap.get? b = some o) (h1 : s'.heap.get? P = some (tabObj more)) : OldK s.heap s'.heap := by
 refine ⟨fun b o e => ?_, fun b o e => ?_⟩
 ·by_cases hb : b = P
  ·subst hb
   rw [hP] at e; cases e
   obtain ⟨o2, vs, file, tf, flags, tg, Ro, text, tt, e1, e2, e3, e4, _⟩ := hd
   rw [hB] at e1
   exact .inr (.inl ⟨⟨lc, o2, vs, of_hideAll [b] e1, e2, e3, e4⟩, rfl, #[], more, rfl, by rw [h1]; show _ = some (tabObj (#[] ++ more)); rw [Array.empty_append]⟩)
  ·exact .inl (k b o hb e)
 ·by_cases hb : b = P
  ·exact ⟨_, hb ▸ h1⟩
  ·exact ⟨o, k b o hb e⟩
theorem JE {w : World} {K : Frag} {s : Shared} {mg mb : Str → Option Value} {loose : List Str} {p : Program} {qq : ExcName → Option Value} {l lc P : Addr} {vs : List Value} {zs : List Int} {fa : Addr} {Q : Value → Shared → Prop} {Ex : Value → Shared → Prop}
  (plain : Ai) (KX : K.In s.heap) (T : Top p loose qq mg mb s.heap) (H : rH C1 K T1 118) (L : xU C1 K wd xT lc P "law" = true) (hk : K.lookup P = none) (hP : s.heap.get? P = some (tabObj #[])) (hmg : mg ("law" : Str) = some (.ref fa)) (hL : s.heap.IsList l vs.toArray) (hI : IntsAre vs zs) (hlen : zs.length ≤ 63)
  (hQ : ∀ s', OldK s.heap s'.heap → s'.os = s.os → s'.gens = s.gens → Q (.bool true) s') : wpAny (model PySem.Challenge.rw_pg0205_01.row.prog w) callerA (call (.ref fa) [.ref l]) Q Ex s :=
 QS (c := { prog := PySem.Challenge.rw_pg0205_01.row.prog, w := w, K := K, B := hideAll s.heap [P], S0 := s, C := 118, pos := false }) (T := T1) (C := C1) (fn := wd) (L := xT) (k := 6) (k2 := 4) H L
  (Gv rfl hP hk KX T) (Gv rfl hP hk KX T) (MP rfl hP T) rfl rfl rfl KX T.g hP Gm Gm rfl (by decide) (by decide) (plain zs hlen) hmg hL hI fun s' more hd k h1 h2 h3 => hQ s' (N9 (c := { prog := PySem.Challenge.rw_pg0205_01.row.prog, w := w, K := K, B := hideAll s.heap [P], S0 := s, C := 118, pos := false }) rfl hP hd k h1) h2 h3
noncomputable def top1.tw264879985006147028 : Nat := 0
noncomputable def top1.tw15616799637752204961 : Nat := 0
noncomputable def top1.tw6792688540996939898 : Nat := 0
noncomputable def top1.tw3138604848415052436 : Nat := 0
noncomputable def top1.tw14421830075956521584 : Nat := 0
noncomputable def top1.tw7530756317549359101 : Nat := 0
noncomputable def top1.tw7643043200475603627 : Nat := 0
noncomputable def top1.tw1946891215322016553 : Nat := 0
noncomputable def top1.tw12716843906011276824 : Nat := 0
noncomputable def top1.tw16349631539499240621 : Nat := 0
noncomputable def top1.tw4459545253108959401 : Nat := 0
noncomputable def top1.tw7171758980910178614 : Nat := 0
noncomputable def top1.tw4014152409161459517 : Nat := 0
noncomputable def top1.tw1640879991385784445 : Nat := 0
noncomputable def top1.tw6404095792955955013 : Nat := 0
noncomputable def top1.tw9399628140311193733 : Nat := 0
noncomputable def top1.tw18393549803502221034 : Nat := 0
noncomputable def top1.tw7326957350486106241 : Nat := 0
noncomputable def top1.tw12123737488780107441 : Nat := 0
noncomputable def top1.tw9859129419371004504 : Nat := 0
noncomputable def top1.tw859759948399869858 : Nat := 0
noncomputable def top1.tw8586171986185986805 : Nat := 0
noncomputable def top1.tw3031950401214062727 : Nat := 0
noncomputable def top1.tw3691828407408033571 : Nat := 0
noncomputable def top1.tw6495882436690998935 : Nat := 0
noncomputable def top1.tw9079014172042012920 : Nat := 0
noncomputable def top1.tw3988008639366130022 : Nat := 0
noncomputable def top1.tw9274270802235738540 : Nat := 0
noncomputable def top1.tw10846850770240319559 : Nat := 0
noncomputable def top1.tw17881091405925733845 : Nat := 0
noncomputable def top1.tw4557377053224011663 : Nat := 0
noncomputable def top1.tw17206461625059443956 : Nat := 0
noncomputable def top1.tw13458412023162492823 : Nat := 0
noncomputable def top1.tw18016289719196100404 : Nat := 0
noncomputable def top1.tw1508608177771938960 : Nat := 0
noncomputable def top1.tw893105319034091387 : Nat := 0
noncomputable def top1.tw11941396778099137562 : Nat := 0
noncomputable def top1.tw15492817370900478318 : Nat := 0
noncomputable def top1.tw13039632657329899905 : Nat := 0
noncomputable def top1.tw5021978081570683540 : Nat := 0
noncomputable def top1.tw17753059119531017407 : Nat := 0
noncomputable def top1.tw3184236289467302566 : Nat := 0
noncomputable def top1.tw573913020961941504 : Nat := 0
noncomputable def top1.tw11768139538261883527 : Nat := 0
noncomputable def top1.tw410839141108536968 : Nat := 0
noncomputable def top1.tw1190460264720091739 : Nat := 0
noncomputable def top1.tw13725307362181701800 : Nat := 0
noncomputable def top1.tw7762941250255610217 : Nat := 0
noncomputable def top1.tw6123435961676874694 : Nat := 0
noncomputable def top1.tw27142488221663758 : Nat := 0
noncomputable def top1.tw11499795428295402244 : Nat := 0
noncomputable def top1.tw11097103451516320716 : Nat := 0
noncomputable def top1.tw10400391982506705590 : Nat := 0
noncomputable def top1.tw17340846675531065280 : Nat := 0
noncomputable def top1.tw12606772355747752652 : Nat := 0
noncomputable def top1.tw6142577012819946147 : Nat := 0
noncomputable def top1.tw10233747088989777470 : Nat := 0
noncomputable def top1.tw136841745530664846 : Nat := 0
noncomputable def top1.tw12924274655115575927 : Nat := 0
noncomputable def top1.tw3979355523872066422 : Nat := 0
noncomputable def top1.tw6665995413534022398 : Nat := 0
noncomputable def top1.tw2212481122018201744 : Nat := 0
noncomputable def top1.tw6451740494625624182 : Nat := 0
noncomputable def top1.tw12222118956683215518 : Nat := 0
noncomputable def top1.tw1874107950459086133 : Nat := 0
noncomputable def top1.tw17155611857885587302 : Nat := 0
noncomputable def top1.tw2480680879712034081 : Nat := 0
noncomputable def top1.tw13890191275289163988 : Nat := 0
noncomputable def top1.tw12047875203161028489 : Nat := 0
noncomputable def top1.tw5488303760688564332 : Nat := 0
noncomputable def top1.tw2199459463900728525 : Nat := 0
noncomputable def top1.tw6772050005870183727 : Nat := 0
noncomputable def top1.tw7279938442122565129 : Nat := 0
noncomputable def top1.tw12522999938983925753 : Nat := 0
set_option Elab.async true in
theorem top1 : PySem.Challenge.rw_pg0205_01.Holds := by
 w_on
 o_law
 k_head
 (case hw => w_witness2)
 k_fill
 intro w s₀ s₁ mg mb G Y fa o pm cd doc dV kV ho hd hcd hD hmg hg args vals as hpre hlay hrd hwl hlo
 have KX := km_in_of Y
 have KT := km_tabs_of Y
 refine Ground.open G ?_
 intro T B D TE TW
 clear B D TE TW ho hd hcd hD
 wrow_args hpre hlay hrd hwl hlo
 rename_i hcond _
 refine JE (lc := 192) (P := 190) plain1 KX T ⟨by kernel_rfl, by kernel_rfl, by kernel_rfl, by kernel_rfl, by kernel_rfl⟩ (by kernel_rfl) (by kernel_rfl) (KT 190 (by decide)) hmg (by assumption) (by assumption) (by omega) fun s' hk hos hgen => ⟨.inl ⟨.bool true, ofPy (.bool true), [], rfl, ?_, readsW_of_reads (Reads.bool true), ?_, ?_⟩, hk, hos, .of_eq (hgen.trans hg)⟩
 ·intro cls; rfl
 ·first | rfl | kernel_rfl
 ·exact fun ξ => ⟨List.nodup_nil, fun a h => by cases h⟩
end Ev
end
theorem PySem.Challenge.cw_pg0205_01_holds : PySem.Challenge.rw_pg0205_01.Holds :=
 Ev.top1
